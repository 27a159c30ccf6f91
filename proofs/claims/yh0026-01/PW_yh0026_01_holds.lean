import PyProof.Rows.All
import Wide.All
import OpenK.AllK
import Wide.FinOn
import KE.KSuper
import KE.KPar
import PySem.Challenge.RW_yh0026_01
set_option Elab.async false
set_option maxRecDepth 100000
set_option maxHeartbeats 4000000
set_option genInjectivity false
set_option genSizeOf false
namespace Mine

/-! one step behind another: the value, if there is one -/
section
variable {α β γ δ : Type}
noncomputable def ob (o : Option α) (k : α → Option β) : Option β := match o with
  | some a => k a
  | none => none
noncomputable def ob2 (o : Option (α × β)) (k : α → β → Option γ) : Option γ := match o with
  | some (a, b) => k a b
  | none => none
noncomputable def ob3 (o : Option (α × β × γ)) (k : α → β → γ → Option δ) : Option δ := match o with
  | some (a, b, c) => k a b c
  | none => none
variable {P : Prop}
theorem ob_el {o : Option α} {k : α → Option β} {y : β} (e : ob o k = some y) (h : ∀ a, o = some a → k a = some y → P) : P := by
  cases o with
  | none => exact nomatch (e : none = some y)
  | some a => exact h a rfl e
theorem ob2_el {o : Option (α × β)} {k : α → β → Option γ} {y : γ} (e : ob2 o k = some y) (h : ∀ a b, o = some (a, b) → k a b = some y → P) : P := by
  cases o with
  | none => exact nomatch (e : none = some y)
  | some p => exact h p.1 p.2 rfl e
theorem ob3_el {o : Option (α × β × γ)} {k : α → β → γ → Option δ} {y : δ} (e : ob3 o k = some y) (h : ∀ a b c, o = some (a, b, c) → k a b c = some y → P) : P := by
  cases o with
  | none => exact nomatch (e : none = some y)
  | some p => exact h p.1 p.2.1 p.2.2 rfl e
/-! a test ahead -/
theorem cnd_el {c : Bool} {x : Option α} {y : α} (e : cond c x none = some y) (h : c = true → x = some y → P) : P := by
  cases c with
  | false => exact nomatch (e : none = some y)
  | true => exact h rfl e
theorem no_el {x : α} (e : none = some x) : P := nomatch e
theorem ft (e : false = true) : P := nomatch e
/-! a value told is the value -/
theorem sm1e {x y : α} {Q : α → Prop} (e : some x = some y) (h : Q x) : Q y := Option.some.inj e ▸ h
theorem sm2e {a x : α} {b y : β} {Q : α → β → Prop} (e : some (a, b) = some (x, y)) (h : Q a b) : Q x y := by cases e; exact h
theorem sm3e {a x : α} {b y : β} {c z : γ} {Q : α → β → γ → Prop} (e : some (a, b, c) = some (x, y, z)) (h : Q a b c) : Q x y z := by cases e; exact h
theorem sm2 {a x : α} {b y : β} (e : some (a, b) = some (x, y)) : a = x ∧ b = y := sm2e (Q := fun x y => a = x ∧ b = y) e ⟨rfl, rfl⟩
theorem sm3 {a x : α} {b y : β} {c z : γ} (e : some (a, b, c) = some (x, y, z)) : a = x ∧ b = y ∧ c = z := sm3e (Q := fun x y z => a = x ∧ b = y ∧ c = z) e ⟨rfl, rfl, rfl⟩
theorem cs1e {c : Bool} {x y : α} {Q : α → Prop} (e : cond c (some x) none = some y) (h : c = true → Q x) : Q y := cnd_el e fun hc e => sm1e e (h hc)
theorem cs2e {c : Bool} {a x : α} {b y : β} {Q : α → β → Prop} (e : cond c (some (a, b)) none = some (x, y)) (h : c = true → Q a b) : Q x y := cnd_el e fun hc e => sm2e e (h hc)
theorem cs3e {c : Bool} {a x : α} {b y : β} {d z : γ} {Q : α → β → γ → Prop} (e : cond c (some (a, b, d)) none = some (x, y, z)) (h : c = true → Q a b d) : Q x y z := cnd_el e fun hc e => sm3e e (h hc)
/-! both -/
theorem and_t {a b : Bool} (e : (a && b) = true) : a = true ∧ b = true := by
  cases a with
  | false => cases e
  | true => exact ⟨rfl, e⟩
theorem or_t {a b : Bool} (e : (a || b) = true) : a = true ∨ b = true := by
  cases a with
  | false => exact .inr e
  | true => exact .inl rfl
theorem not_t {a : Bool} (e : (!a) = true) : a = false := by
  cases a with
  | false => rfl
  | true => cases e
theorem ble_t {a b : Nat} (e : Nat.ble a b = true) : a ≤ b := Nat.le_of_ble_eq_true e
theorem beq_t {a b : Nat} (e : Nat.beq a b = true) : a = b := Nat.eq_of_beq_eq_true e
end
end Mine
namespace Mine
open PySem

/-- polynomials in the eleven cells -/
inductive PE where
  | v (n : Nat) | lit (i : Int) | add (a b : PE) | mul (a b : PE)

/-- ints: written; an offset to the base's rest; an offset to the head; a polynomial; the last cell; its 11th part; a number known modulo m -/
inductive AI where
  | lit (i : Int) | off (i : Int) | hof (i : Int) | sym (p : PE) | c10 (r : Nat) | rest (r : Nat) | cyc (m r : Nat)

inductive AB where
  | lit (b : Bool) | lt (p : PE) (i : Int)

inductive BF where
  | len | ord | chr | str

inductive AV where
  | none | bool (b : AB) | int (a : AI) | str (x : List Nat) | tabs | ref (k : Nat) | top (a : Nat) | script

inductive AO where
  | list (xs : List AV) | tup (xs : List AV) | dct (es : List (Nat × AV)) | page (d : Nat) | acc (d : Nat) (xs : List AV)
  | cell (v : Option AV)

/-- binary tries -/
inductive Tr (α : Type) where
  | nil | node (v : Option α) (l r : Tr α)
noncomputable def Tr.get {α : Type} (t : Tr α) (i : Nat) : Option α := @Tr.rec α (fun _ => Nat → Option α) (fun _ => none) (fun v _ _ l r i => cond (Nat.beq i 0) v (cond (Nat.beq (Nat.mod i 2) 1) (l (Nat.div i 2)) (r (Nat.sub (Nat.div i 2) 1)))) t i
noncomputable def Tr.val {α : Type} (t : Tr α) : Option α := @Tr.rec α (fun _ => Option α) none (fun v _ _ _ _ => v) t
noncomputable def Tr.left {α : Type} (t : Tr α) : Tr α := @Tr.rec α (fun _ => Tr α) .nil (fun _ l _ _ _ => l) t
noncomputable def Tr.right {α : Type} (t : Tr α) : Tr α := @Tr.rec α (fun _ => Tr α) .nil (fun _ _ r _ _ => r) t
/-- n levels are opened at most -/
noncomputable def Tr.put {α : Type} (n : Nat) (t : Tr α) (i : Nat) (o : α) : Tr α := @Nat.rec (fun _ => Tr α → Nat → Tr α) (fun t _ => t)
  (fun _ ih t i => cond (Nat.beq i 0) (.node (some o) t.left t.right) (cond (Nat.beq (Nat.mod i 2) 1) (.node t.val (ih t.left (Nat.div i 2)) t.right) (.node t.val t.left (ih t.right (Nat.sub (Nat.div i 2) 1))))) n t i
structure AH where
  n : Nat
  t : Tr AO
noncomputable def AH.nil : AH := ⟨0, .nil⟩
noncomputable def AH.get (H : AH) (i : Nat) : Option AO := H.t.get i
noncomputable def AH.set (H : AH) (i : Nat) (o : AO) : AH := ⟨H.n, H.t.put 40 i o⟩
noncomputable def AH.push (H : AH) (o : AO) : AH := ⟨Nat.succ H.n, H.t.put 40 H.n o⟩

/-- what is yet to come: the items, or those of a list from a place on -/
inductive IT where
  | items (xs : List AV) | lst (k j : Nat)

noncomputable def okN (H : AH) : Bool := Nat.blt H.n 1000000
/-- a new object -/
noncomputable def pushR (H : AH) (o : AO) : Option (AV × AH) := cond (okN H) (some (.ref H.n, H.push o)) none

inductive Fl where
  | next | brk | cont | ret (v : AV)

noncomputable def nlb : List Nat → List Nat → Bool
  | [], [] => true
  | a :: as, b :: bs => Nat.beq a b && nlb as bs
  | _, _ => false
noncomputable def se (a b : Str) : Bool := nlb a.cps.toList b.cps.toList

/-- the signs of a text: a code below fakeAt is itself, fakeAt + k is the k-th sign drawn -/
noncomputable def fakeAt : Nat := 1114112
noncomputable def okc (c : Nat) : Bool := Nat.beq c 9 || Nat.beq c 10 || Nat.beq c 13 || Nat.beq c 32 || (Nat.ble 252 c && Nat.ble c 255) || (Nat.ble fakeAt c && Nat.ble c (fakeAt + 2))
noncomputable def okx (x : List Nat) : Bool := x.all okc

inductive BOp where
  | add | sub | mul | div | mod
inductive COp where
  | lt | le | gt | eq | ne | is | isNot
/-- methods -/
inductive Me where
  | append | join | split | isspace | index | chunk | str_ | newline | push | popFrom | reset | onlyws | count | pop

noncomputable def aadd : AI → AI → Option AI
  | .lit a, .lit b => some (.lit (a + b))
  | .off a, .lit b => some (.off (a + b))
  | .lit a, .off b => some (.off (a + b))
  | .hof a, .lit b => some (.hof (a + b))
  | .lit a, .hof b => some (.hof (a + b))
  | .sym p, .sym q => some (.sym (.add p q))
  | .sym p, .lit b => some (.sym (.add p (.lit b)))
  | .lit a, .sym q => some (.sym (.add (.lit a) q))
  | _, _ => none
noncomputable def asub : AI → AI → Option AI
  | .lit a, .lit b => some (.lit (a - b))
  | .off a, .lit b => some (.off (a - b))
  | .off a, .off b => some (.lit (a - b))
  | .hof a, .lit b => some (.hof (a - b))
  | .hof a, .hof b => some (.lit (a - b))
  | .sym p, .lit b => some (.sym (.add p (.lit (-b))))
  | _, _ => none
/-- how many bits a number of the script may have, and a sum of seven -/
noncomputable def vbits : Nat := 1048592
noncomputable def litBits : Int → Nat
  | .ofNat n => Nat.log2 n + 1
  | .negSucc n => Nat.log2 (n + 1) + 1
noncomputable def nmax (a b : Nat) : Nat := cond (Nat.ble a b) b a
noncomputable def PE.bits : PE → Nat
  | .v _ => vbits
  | .lit i => litBits i
  | .add a b => nmax a.bits b.bits + 1
  | .mul a b => a.bits + b.bits
noncomputable def okBits (a b : PE) : Bool := Nat.ble (a.bits + b.bits) 134217728
noncomputable def mulS (a b : PE) : Option AI := cond (okBits a b) (some (.sym (.mul a b))) none
noncomputable def amul : AI → AI → Option AI
  | .lit a, .lit b => cond (okBits (.lit a) (.lit b)) (some (.lit (a * b))) none
  | .sym p, .sym q => mulS p q
  | .sym p, .lit b => mulS p (.lit b)
  | .lit a, .sym q => mulS (.lit a) q
  | _, _ => none
noncomputable def nmod (a b : Nat) : Bool := Nat.beq (a % b) 0
noncomputable def rdiv (r n : Nat) : Option AI := cond (Nat.beq n 4) (some (.cyc 162 r)) (cond (Nat.beq n 24) (some (.cyc 27 (r / 6))) (cond (Nat.beq n 72) (some (.cyc 9 (r / 18))) (cond (Nat.beq n 216) (some (.cyc 3 (r / 54))) none)))
noncomputable def afdiv : AI → AI → Option AI
  | .c10 r, .lit (.ofNat n) => cond (Nat.beq n 11) (some (.rest r)) none
  | .rest r, .lit (.ofNat n) => rdiv r n
  | _, _ => none
noncomputable def amod : AI → AI → Option AI
  | .c10 _, .lit (.ofNat n) => cond (Nat.beq n 11) (some (.off 0)) none
  | .rest _, .lit (.ofNat n) => cond (Nat.beq n 4) (some (.hof 0)) none
  | .cyc m r, .lit (.ofNat n) => cond (!Nat.beq n 0 && nmod m n) (some (.lit (.ofNat (r % n)))) none
  | _, _ => none

/-- the sum of products, sorted, of a polynomial -/
noncomputable abbrev Mono := List Nat
noncomputable def insN (n : Nat) : List Nat → List Nat
  | [] => [n]
  | m :: r => cond (Nat.ble n m) (n :: m :: r) (m :: insN n r)
noncomputable def mulM : Mono → Mono → Mono
  | [], b => b
  | n :: a, b => insN n (mulM a b)
noncomputable def ltM : Mono → Mono → Bool
  | [], [] => false
  | [], _ :: _ => true
  | _ :: _, [] => false
  | a :: as, b :: bs => Nat.blt a b || (Nat.beq a b && ltM as bs)
noncomputable def addT (c : Int) (m : Mono) : List (Int × Mono) → List (Int × Mono)
  | [] => [(c, m)]
  | (d, n) :: r => cond (nlb m n) ((c + d, n) :: r) (cond (ltM m n) ((c, m) :: (d, n) :: r) ((d, n) :: addT c m r))
noncomputable def addP : List (Int × Mono) → List (Int × Mono) → List (Int × Mono)
  | [], q => q
  | (c, m) :: p, q => addT c m (addP p q)
noncomputable def scaleP (c : Int) (m : Mono) : List (Int × Mono) → List (Int × Mono)
  | [] => []
  | (d, n) :: r => addT (c * d) (mulM m n) (scaleP c m r)
noncomputable def mulP : List (Int × Mono) → List (Int × Mono) → List (Int × Mono)
  | [], _ => []
  | (c, m) :: p, q => addP (scaleP c m q) (mulP p q)
noncomputable def PE.nf : PE → List (Int × Mono)
  | .v n => [(1, [n])]
  | .lit i => [(i, [])]
  | .add a b => addP a.nf b.nf
  | .mul a b => mulP a.nf b.nf
noncomputable def ieq (a b : Int) : Bool := match a, b with
  | .ofNat m, .ofNat n => Nat.beq m n
  | .negSucc m, .negSucc n => Nat.beq m n
  | _, _ => false
/-- the same but for terms with a factor of nought -/
noncomputable def eqPf : Nat → List (Int × Mono) → List (Int × Mono) → Bool
  | 0, _, _ => false
  | k + 1, p, q => match p with
    | [] => match q with
      | [] => true
      | d :: q => ieq d.1 0 && eqPf k [] q
    | c :: p => cond (ieq c.1 0) (eqPf k p q) (match q with
      | [] => false
      | d :: q => cond (ieq d.1 0) (eqPf k (c :: p) q) (ieq c.1 d.1 && nlb c.2 d.2 && eqPf k p q))
noncomputable def eqP (p q : List (Int × Mono)) : Bool := eqPf (Nat.succ (Nat.add p.length q.length)) p q

noncomputable def ilt (a b : Int) : Bool := match a, b with
  | .ofNat m, .ofNat n => Nat.blt m n
  | .ofNat _, .negSucc _ => false
  | .negSucc _, .ofNat _ => true
  | .negSucc m, .negSucc n => Nat.blt n m
noncomputable def cmpI : COp → Int → Int → Option AB
  | .lt, a, b => some (.lit (ilt a b))
  | .le, a, b => some (.lit (!ilt b a))
  | .gt, a, b => some (.lit (ilt b a))
  | .eq, a, b => some (.lit (ieq a b))
  | .ne, a, b => some (.lit (!ieq a b))
  | _, _, _ => none
noncomputable def litA : AI → Option Int
  | .lit a => some a
  | _ => none
noncomputable def offA : AI → Option Int
  | .off a => some a
  | _ => none
noncomputable def hofA : AI → Option Int
  | .hof a => some a
  | _ => none
noncomputable def eqT (p q : PE) : Option AB := cond (eqP p.nf q.nf) (some (.lit true)) none
noncomputable def cmpL (op : COp) (p : PE) (i : Int) : Option AB := match op with
  | .lt => some (.lt p i)
  | .eq => eqT p (.lit i)
  | _ => none
noncomputable def cmpS (op : COp) (p q : PE) : Option AB := match op with
  | .eq => eqT p q
  | _ => none
noncomputable def acmp (op : COp) (a b : AI) : Option AB := match a with
  | .lit m => ob (litA b) (cmpI op m)
  | .off m => ob (offA b) (cmpI op m)
  | .hof m => ob (hofA b) (cmpI op m)
  | .sym p => match b with
    | .lit i => cmpL op p i
    | .sym q => cmpS op p q
    | _ => none
  | _ => none

noncomputable def idxOf (len : Nat) : AI → Option Nat
  | .lit (.ofNat n) => cond (Nat.blt n len) (some n) none
  | .lit (.negSucc n) => cond (Nat.beq n 0 && !Nat.beq len 0) (some (len - 1)) none
  | _ => none

noncomputable def oi : Option AI → Option AV
  | some a => some (.int a)
  | none => none
noncomputable def addV : AV → AV → Option AV
  | .int x, .int y => oi (aadd x y)
  | .str x, .str y => cond (Nat.ble (x.length + y.length) 4096) (some (.str (x ++ y))) none
  | _, _ => none
noncomputable def mulV : AV → AV → Option AV
  | .int x, .int y => oi (amul x y)
  | .str x, .int (.hof i) => cond (nlb x [9] && ieq i 0) (some .tabs) none
  | _, _ => none
noncomputable def intV (g : AI → AI → Option AI) : AV → AV → Option AV
  | .int x, .int y => oi (g x y)
  | _, _ => none
noncomputable def binop : BOp → AV → AV → Option AV
  | .add, a, b => addV a b
  | .sub, a, b => intV asub a b
  | .mul, a, b => mulV a b
  | .div, a, b => intV afdiv a b
  | .mod, a, b => intV amod a b

noncomputable def isStrs : List AV → Option (List (List Nat))
  | [] => some []
  | .str x :: r => ob (isStrs r) fun l => some (x :: l)
  | _ :: _ => none
noncomputable def nllb : List (List Nat) → List (List Nat) → Bool
  | [], [] => true
  | a :: as, b :: bs => nlb a b && nllb as bs
  | _, _ => false
noncomputable def ab (b : Bool) : Option AV := some (.bool (.lit b))
noncomputable def isN : AV → Option Bool
  | .none => some true
  | .ref _ => some false
  | .int _ => some false
  | .str _ => some false
  | _ => none
noncomputable def eqB (p q : AB) : Option Bool := match p with
  | .lit x => match q with
    | .lit y => some (x == y)
    | _ => none
  | .lt p i => match q with
    | .lt q j => cond (eqP p.nf q.nf && ieq i j) (some true) none
    | _ => none
noncomputable def isv (a b : AV) : Option Bool := match b with
  | .none => isN a
  | .bool q => match a with
    | .bool p => eqB p q
    | _ => none
  | _ => none
noncomputable def neTup (xs ys : List AV) : Option AV := ob (isStrs xs) fun xs => ob (isStrs ys) fun ys => cond (xs.all okx && ys.all okx) (ab (!nllb xs ys)) none
noncomputable def isNil {α : Type} : List α → Bool
  | [] => true
  | _ :: _ => false
noncomputable def neObj (o p : AO) : Option AV := match o with
  | .tup xs => match p with
    | .tup ys => neTup xs ys
    | _ => none
  | .list xs => match p with
    | .list ys => cond (isNil xs && isNil ys) (ab false) none
    | _ => none
  | _ => none
noncomputable def eqStr (neg : Bool) (x y : List Nat) : Option AV := cond (okx x && okx y) (ab (xor neg (nlb x y))) none
noncomputable def cmpRef (H : AH) (i j : Nat) : Option AV := ob (H.get i) fun o => ob (H.get j) fun p => neObj o p
noncomputable def cmpX (op : COp) (x y : List Nat) : Option AV := match op with
  | .eq => eqStr false x y
  | .ne => eqStr true x y
  | _ => none
noncomputable def cmpR (H : AH) (op : COp) (i j : Nat) : Option AV := match op with
  | .ne => cmpRef H i j
  | _ => none
noncomputable def cmpV (H : AH) (op : COp) (a b : AV) : Option AV := match a with
  | .int x => match b with
    | .int y => ob (acmp op x y) fun b => some (.bool b)
    | _ => none
  | .str x => match b with
    | .str y => cmpX op x y
    | _ => none
  | .ref i => match b with
    | .ref j => cmpR H op i j
    | _ => none
  | _ => none
noncomputable def compare (H : AH) (op : COp) (a b : AV) : Option AV := match op with
  | .is => ob (isv a b) fun t => ab t
  | .isNot => ob (isv a b) fun t => ab (!t)
  | op => cmpV H op a b

noncomputable def partOf : AO → Option (List Nat × List Nat)
  | .tup [.str a, .str b] => some (a, b)
  | _ => none
noncomputable def partsOf (H : AH) : List AV → Option (List (List Nat × List Nat))
  | [] => some []
  | .ref i :: r => ob (H.get i) fun o => ob (partOf o) fun p => ob (partsOf H r) fun ps => some (p :: ps)
  | _ :: _ => none
noncomputable def lensOf : List (List Nat × List Nat) → Nat
  | [] => 0
  | p :: r => p.1.length + p.2.length + lensOf r
noncomputable def glued : List (List Nat × List Nat) → List Nat
  | [] => []
  | p :: r => p.1 ++ p.2 ++ glued r

noncomputable def attrs : List Str := ["_maxlen", "_continuation_ws", "_continuation_ws_len", "_splitchars", "_lines", "_current_line", "_initial_size"]
noncomputable def field (n : Nat) : List (Nat × AV) → Option AV
  | [] => none
  | p :: r => cond (Nat.beq n p.1) (some p.2) (field n r)
noncomputable def setField (n : Nat) (v : AV) : List (Nat × AV) → List (Nat × AV)
  | [] => [(n, v)]
  | p :: r => cond (Nat.beq n p.1) ((n, v) :: r) (p :: setField n v r)
noncomputable def dctOf (H : AH) (d : Nat) : Option (List (Nat × AV)) := match H.get d with
  | some (.dct es) => some es
  | _ => none
noncomputable def initAt : Nat := 6
noncomputable def accInit (H : AH) (d : Nat) : Option AI := ob (dctOf H d) fun es => match field initAt es with
    | some (.int n) => some n
    | _ => none
/-- surely not below nought, and no giant -/
noncomputable def okLen : AI → Bool
  | .lit (.ofNat n) => Nat.ble n 100000
  | .hof (.ofNat n) => Nat.ble n 100000
  | _ => false
/-- len() of an _Accumulator -/
noncomputable def accLen (H : AH) (d : Nat) (xs : List AV) : Option AI := ob (accInit H d) fun n => ob (partsOf H xs) fun ps => cond (okLen n && Nat.ble (lensOf ps) 8192 && Nat.ble ps.length 4096) (aadd n (.lit (.ofNat (lensOf ps)))) none
noncomputable def accStr (H : AH) (xs : List AV) : Option (List Nat) := ob (partsOf H xs) fun ps => cond (Nat.ble (glued ps).length 4096 && Nat.ble ps.length 4096) (some (glued ps)) none

noncomputable def truthL {α : Type} : List α → Bool
  | [] => false
  | _ :: _ => true
noncomputable def truthI : AI → Option Bool
  | .lit (.ofNat n) => some (!Nat.beq n 0)
  | _ => none
noncomputable def truthO (H : AH) : AO → Option Bool
  | .list xs => cond (Nat.ble xs.length 8192) (some (truthL xs)) none
  | .acc d xs => ob (accLen H d xs) fun n => truthI n
  | _ => none
/-- truth of a value -/
noncomputable def truth (H : AH) : AV → Option Bool
  | .bool (.lit b) => some b
  | .str x => cond (Nat.ble x.length 8192) (some (truthL x)) none
  | .ref k => ob (H.get k) fun o => truthO H o
  | _ => none

noncomputable def signs13 : List Nat := [43, 45, 42, 47, 124, 38, 60, 62, 61, 46, 37, 123, 125]
noncomputable def sliceN {α : Type} (xs : List α) (a b : Nat) : List α := (xs.take b).drop a
/-- a bound of a slice: none, or an int in 0 .. len -/
noncomputable def bnd (dflt len : Nat) : AV → Option Nat
  | .none => some dflt
  | .int (.lit (.ofNat n)) => cond (Nat.ble n len) (some n) none
  | _ => none
noncomputable def bnds (len : Nat) (l u : AV) : Option (Nat × Nat) := ob (bnd 0 len l) fun a => ob (bnd len len u) fun b => cond (Nat.ble a b) (some (a, b)) none
/-- the three signs -/
noncomputable def drawnThree (x : List Nat) : AV → AV → Option AV
  | .int (.off i), .int (.off j) => cond (nlb x signs13 && ieq i 0 && ieq j 3) (some (.str [fakeAt, fakeAt + 1, fakeAt + 2])) none
  | _, _ => none
noncomputable def seqOf : AO → Option (List AV)
  | .list xs => some xs
  | .acc _ xs => some xs
  | _ => none
noncomputable def sliceOf (H : AH) (o l u : AV) : Option (AV × AH) := match o with
  | .str x => cond (Nat.ble x.length 8192) (match bnds x.length l u with
    | some p => some (.str (sliceN x p.1 p.2), H)
    | none => ob (drawnThree x l u) fun v => some (v, H)) none
  | .ref k => ob (H.get k) fun o => ob (seqOf o) fun xs => cond (Nat.ble xs.length 8192) (ob (bnds xs.length l u) fun p => pushR H (.list (sliceN xs p.1 p.2))) none
  | _ => none

noncomputable def dictAt : Nat := 197
noncomputable def itemsOf : AO → Option (List AV)
  | .list xs => some xs
  | .tup xs => some xs
  | .acc _ xs => some xs
  | _ => none
noncomputable def nth {α : Type} : List α → Nat → Option α
  | [], _ => none
  | x :: r, n => match n with
    | 0 => some x
    | n + 1 => nth r n
noncomputable def itemRef (H : AH) (k : Nat) (a : AI) : Option AV := ob (H.get k) fun o => ob (itemsOf o) fun xs => cond (Nat.ble xs.length 8192) (ob (idxOf xs.length a) fun n => nth xs n) none
noncomputable def itemStr (x : List Nat) (a : AI) : Option AV := cond (Nat.ble x.length 8192) (ob (idxOf x.length a) fun n => ob (nth x n) fun c => some (.str [c])) none
noncomputable def tokOf (n c : Nat) : Option AV := cond (Nat.beq n dictAt && Nat.ble fakeAt c && Nat.ble c (fakeAt + 2)) (some (.int (.off (.ofNat (14 + (c - fakeAt)))))) none
noncomputable def itemOf (H : AH) (o i : AV) : Option AV := match o with
  | .str x => match i with
    | .int a => itemStr x a
    | _ => none
  | .ref k => match i with
    | .int a => itemRef H k a
    | _ => none
  | .top n => match i with
    | .str [c] => tokOf n c
    | _ => none
  | _ => none

/-- the pieces of a text between the seps; n bounds the steps -/
noncomputable def splitBy (sep : List Nat) (n : Nat) : List Nat → List Nat → List (List Nat) := @Nat.rec (fun _ => List Nat → List Nat → List (List Nat)) (fun _ acc => [acc.reverse])
  (fun _ ih x acc => match x with
    | [] => [acc.reverse]
    | c :: r => cond (nlb sep ((c :: r).take sep.length)) (acc.reverse :: ih ((c :: r).drop sep.length) []) (ih r (c :: acc))) n
noncomputable def splitA (x sep : List Nat) : List (List Nat) := splitBy sep (x.length + 1) x []
noncomputable def joinA (sep : List Nat) : List (List Nat) → List Nat
  | [] => []
  | x :: r => match r with
    | [] => x
    | _ :: _ => x ++ sep ++ joinA sep r
noncomputable def findC (c : Nat) : List Nat → Nat → Option Nat
  | [], _ => none
  | d :: r, n => cond (Nat.beq c d) (some n) (findC c r (n + 1))
/-- surely no blank sign -/
noncomputable def noBlank (c : Nat) : Bool := (Nat.ble 252 c && Nat.ble c 255) || (Nat.ble fakeAt c && Nat.ble c (fakeAt + 2))

noncomputable def strJoin (H : AH) (x : List Nat) : List AV → Option (AV × AH)
  | [.ref k] => match H.get k with
    | some (.list xs) => ob (isStrs xs) fun ys => cond (Nat.ble (joinA x ys).length 4096 && Nat.ble x.length 4096) (some (.str (joinA x ys), H)) none
    | _ => none
  | _ => none
noncomputable def strSplit (H : AH) (x : List Nat) : List AV → Option (AV × AH)
  | [.str sep] => cond (okx x && (nlb sep [32] || nlb sep [13, 10]) && Nat.ble x.length 4096) (pushR H (.list ((splitA x sep).map .str))) none
  | _ => none
noncomputable def strSpace (H : AH) (x : List Nat) : List AV → Option (AV × AH)
  | [] => cond (x.any noBlank) (some (.bool (.lit false), H)) none
  | _ => none
noncomputable def strIndex (H : AH) (x : List Nat) : List AV → Option (AV × AH)
  | [.str [c]] => cond (okx x && okc c) (ob (findC c x 0) fun n => some (.int (.lit (.ofNat n)), H)) none
  | _ => none
noncomputable def strMeth (H : AH) (x : List Nat) (n : Me) (args : List AV) : Option (AV × AH) := match n with
  | .join => strJoin H x args
  | .split => strSplit H x args
  | .isspace => strSpace H x args
  | .index => strIndex H x args
  | _ => none

noncomputable def wi (H : AH) : Option AI → Option (AV × AH)
  | some n => some (.int n, H)
  | none => none
noncomputable def lenO (H : AH) : AO → Option (AV × AH)
  | .list xs => cond (Nat.ble xs.length 8192) (some (.int (.lit (.ofNat xs.length)), H)) none
  | .acc d xs => wi H (accLen H d xs)
  | _ => none
noncomputable def lenV (H : AH) : AV → Option (AV × AH)
  | .str x => cond (Nat.ble x.length 8192) (some (.int (.lit (.ofNat x.length)), H)) none
  | .tabs => some (.int (.hof 0), H)
  | .ref k => ob (H.get k) fun o => lenO H o
  | _ => none
noncomputable def okName (c : Nat) : Bool := Nat.ble 252 c && Nat.ble c 255
noncomputable def ordV (H : AH) : AV → Option (AV × AH)
  | .str [c] => cond (okName c) (some (.int (.lit (.ofNat c)), H)) none
  | _ => none
noncomputable def chrV (H : AH) : AV → Option (AV × AH)
  | .int (.lit (.ofNat c)) => cond (okName c) (some (.str [c], H)) none
  | _ => none
noncomputable def strV (H : AH) : AV → Option (AV × AH)
  | .ref k => match H.get k with
    | some (.acc d xs) => ob (dctOf H d) fun _ => ob (accStr H xs) fun x => some (.str x, H)
    | _ => none
  | _ => none
/-- the first room of a page: the width less the line at hand -/
noncomputable def room0 (H : AH) (es : List (Nat × AV)) : Option AI := match field 0 es, field 5 es with
  | some (.int m), some (.ref c) => match H.get c with
    | some (.acc d xs) => ob (accLen H d xs) fun n => asub m n
    | _ => none
  | _, _ => none
/-- the rooms behind: the width less the tabs -/
noncomputable def room1 (es : List (Nat × AV)) : Option AI := match field 0 es, field 2 es with
  | some (.int m), some (.int wl) => asub m wl
  | _, _ => none
/-- the two rooms that the page's generator hands out first -/
noncomputable def roomsOf (H : AH) : AV → Option (AI × AI)
  | .ref k => match H.get k with
    | some (.page d) => ob (dctOf H d) fun es => ob (room0 H es) fun a => ob (room1 es) fun b => some (a, b)
    | _ => none
  | _ => none
noncomputable def builtinCall (H : AH) (f : BF) (args : List AV) : Option (AV × AH) := match args with
  | [v] => match f with
    | .len => lenV H v
    | .ord => ordV H v
    | .chr => chrV H v
    | .str => strV H v
  | _ => none

/-- the fields of the two classes' objects -/
noncomputable def dictOfO : AO → Option Nat
  | .page d => some d
  | .acc d _ => some d
  | _ => none
noncomputable def dictOfV (H : AH) : AV → Option Nat
  | .ref k => ob (H.get k) fun o => dictOfO o
  | _ => none
noncomputable def plainV : AV → Bool
  | .top _ => false
  | .script => false
  | _ => true
noncomputable def getAttrA (H : AH) (o : AV) (n : Nat) : Option AV := ob (dictOfV H o) fun d => ob (dctOf H d) fun es => ob (field n es) fun v => cond (plainV v) (some v) none
noncomputable def setAttrA (H : AH) (o : AV) (n : Nat) (v : AV) : Option AH := ob (dictOfV H o) fun d => ob (dctOf H d) fun es => cond (Nat.ble es.length 400) (some (H.set d (.dct (setField n v es)))) none

/-- the program's expressions and statements, names resolved -/
inductive AX where
  | cst (v : AV) | loc (i : Nat) | cel (i : Nat)
  | bin (l : AX) (op : BOp) (r : AX) | not (x : AX) | cmp (l : AX) (op : COp) (r : AX) | bool (isAnd : Bool) (es : List AX)
  | ite (t b o : AX) | slc (v lo up : AX) | itm (v i : AX) | att (v : AX) (n : Nat)
  | lst (es : List AX) | tup (es : List AX) | callT (a : Nat) (es : List AX) | callB (b : BF) (es : List AX) | rng (es : List AX)
  | callM (o : AX) (n : Me) (es : List AX) | callS (o : AX) (n : Me) (e : AX)
  | comp (elt : AX) (gs : List (Nat × AX × List AX)) (cs : List (Nat × Nat))
inductive AS where
  | ret (e : AX) | setL (i : Nat) (e : AX) | setC (i : Nat) (e : AX) | setN (is : List Nat) (e : AX) | setA (o : AX) (n : Nat) (e : AX) | setS (o lo e : AX)
  | aug (i : Nat) (op : BOp) (e : AX) | ite (t : AX) (b o : List AS) | loop (i : Nat) (it : AX) (b o : List AS) | expr (e : AX) | rooms (x y z : Nat) (o : AX) | brk | cont | bad

structure AF where
  loc : Tr AV
  cel : List (Nat × Nat)

structure Fns where
  ev : AF → AH → AX → Option (AV × AH)
  tr : AF → AH → AX → Option (Bool × AH)
  ex : AF → AH → AS → Option (Fl × AF × AH)
  exs : AF → AH → List AS → Option (Fl × AF × AH)
  loop : AF → AH → Nat → IT → List AS → List AS → Option (Fl × AF × AH)
  call : AH → Nat → List AV → Option (AV × AH)
  comp : AF → AH → Nat → AX → List (Nat × AX × List AX) → Option AH
  items : AF → AH → Nat → AX → Nat → List AX → List (Nat × AX × List AX) → IT → Option AH

noncomputable def evs (f : Fns) (F : AF) : AH → List AX → Option (List AV × AH)
  | H, [] => some ([], H)
  | H, e :: r => ob2 (f.ev F H e) fun v H => ob2 (evs f F H r) fun vs H => some (v :: vs, H)
noncomputable def celAt (n : Nat) : List (Nat × Nat) → Option Nat
  | [] => none
  | p :: r => cond (Nat.beq n p.1) (some p.2) (celAt n r)

noncomputable def wv (H : AH) : Option AV → Option (AV × AH)
  | some v => some (v, H)
  | none => none
noncomputable def evCel (F : AF) (H : AH) (i : Nat) : Option AV := ob (celAt i F.cel) fun k => match H.get k with
    | some (.cell (some v)) => some v
    | _ => none
noncomputable def evBin (f : Fns) (F : AF) (H : AH) (l : AX) (op : BOp) (r : AX) : Option (AV × AH) := ob2 (f.ev F H l) fun a H => ob2 (f.ev F H r) fun b H => wv H (binop op a b)
noncomputable def evCmp (f : Fns) (F : AF) (H : AH) (l : AX) (op : COp) (r : AX) : Option (AV × AH) := ob2 (f.ev F H l) fun a H => ob2 (f.ev F H r) fun b H => wv H (compare H op a b)
noncomputable def evNot (f : Fns) (F : AF) (H : AH) (x : AX) : Option (AV × AH) := ob2 (f.ev F H x) fun v H => ob (truth H v) fun b => some (.bool (.lit (!b)), H)
noncomputable def evBool (f : Fns) (F : AF) (H : AH) (isAnd : Bool) : List AX → Option (AV × AH)
  | [x, y] => ob2 (f.ev F H x) fun v H => ob (truth H v) fun b => cond (b == isAnd) (f.ev F H y) (some (v, H))
  | _ => none
noncomputable def evIf (f : Fns) (F : AF) (H : AH) (t b o : AX) : Option (AV × AH) := ob2 (f.tr F H t) fun c H => cond c (f.ev F H b) (f.ev F H o)
noncomputable def evSlice (f : Fns) (F : AF) (H : AH) (v lo up : AX) : Option (AV × AH) := ob2 (f.ev F H v) fun o H => ob2 (f.ev F H lo) fun l H => ob2 (f.ev F H up) fun u H => sliceOf H o l u
noncomputable def evItem (f : Fns) (F : AF) (H : AH) (v i : AX) : Option (AV × AH) := ob2 (f.ev F H v) fun o H => ob2 (f.ev F H i) fun i H => wv H (itemOf H o i)
noncomputable def evAttr (f : Fns) (F : AF) (H : AH) (v : AX) (n : Nat) : Option (AV × AH) := ob2 (f.ev F H v) fun o H => wv H (getAttrA H o n)
noncomputable def evList (f : Fns) (F : AF) (H : AH) (es : List AX) : Option (AV × AH) := ob2 (evs f F H es) fun vs H => cond (Nat.ble vs.length 4096) (pushR H (.list vs)) none
noncomputable def evTup (f : Fns) (F : AF) (H : AH) (es : List AX) : Option (AV × AH) := ob2 (evs f F H es) fun vs H => cond (Nat.ble vs.length 4096) (pushR H (.tup vs)) none
/-- a class called, or a def -/
noncomputable def callPage (f : Fns) (H : AH) (args : List AV) : Option (AV × AH) := cond (okN H) (match f.call ((H.push (.dct [])).push (.page H.n)) 35 (.ref (Nat.succ H.n) :: args) with
  | some (.none, H') => some (.ref (Nat.succ H.n), H')
  | _ => none) none
noncomputable def callAcc (H : AH) : List AV → Option (AV × AH)
  | [v] => cond (okN H) (some (.ref (Nat.succ H.n), (H.push (.dct [(initAt, v)])).push (.acc H.n []))) none
  | _ => none
noncomputable def callTop (f : Fns) (H : AH) (a : Nat) (args : List AV) : Option (AV × AH) :=
  cond (Nat.beq a 94) (callPage f H args) (cond (Nat.beq a 178) (callAcc H args) (f.call H a args))
noncomputable def evCallT (f : Fns) (F : AF) (H : AH) (a : Nat) (es : List AX) : Option (AV × AH) := ob2 (evs f F H es) fun vs H => callTop f H a vs
noncomputable def evCallB (f : Fns) (F : AF) (H : AH) (b : BF) (es : List AX) : Option (AV × AH) := ob2 (evs f F H es) fun vs H => builtinCall H b vs

noncomputable def listMeth (H : AH) (k : Nat) (xs : List AV) (n : Me) : List AV → Option (AV × AH)
  | [v] => match n with
    | .append => cond (Nat.ble xs.length 4096) (some (.none, H.set k (.list (xs ++ [v])))) none
    | _ => none
  | _ => none
noncomputable def pageMeth (f : Fns) (H : AH) (k : Nat) (n : Me) (args : List AV) : Option (AV × AH) := match n with
  | .chunk => f.call H 91 (.ref k :: args)
  | .str_ => f.call H 42 (.ref k :: args)
  | .newline => f.call H 56 (.ref k :: args)
  | _ => none
noncomputable def lastOf : List AV → Option AV
  | [] => none
  | x :: r => match r with
    | [] => some x
    | _ :: _ => lastOf r
noncomputable def accMeth (f : Fns) (H : AH) (k d : Nat) (xs : List AV) (n : Me) (args : List AV) : Option (AV × AH) := match n with
  | .push => f.call H 122 (.ref k :: args)
  | .popFrom => f.call H 130 (.ref k :: args)
  | .reset => f.call H 160 (.ref k :: args)
  | .onlyws => f.call H 167 (.ref k :: args)
  | .append => match args with
    | [v] => cond (Nat.ble xs.length 4096) (some (.none, H.set k (.acc d (xs ++ [v])))) none
    | _ => none
  | .count => match args with
    | [] => cond (Nat.ble xs.length 4096) (some (.int (.lit (.ofNat xs.length)), H)) none
    | _ => none
  | .pop => match args with
    | [] => ob (lastOf xs) fun v => cond (Nat.ble xs.length 4096) (some (v, H.set k (.acc d xs.dropLast))) none
    | _ => none
  | _ => none
noncomputable def callMeth (f : Fns) (H : AH) (o : AV) (n : Me) (args : List AV) : Option (AV × AH) := match o with
  | .str x => strMeth H x n args
  | .ref k => match H.get k with
    | some (.list xs) => listMeth H k xs n args
    | some (.page _) => pageMeth f H k n args
    | some (.acc d xs) => accMeth f H k d xs n args
    | _ => none
  | _ => none
/-- what a value is that a method is called on -/
noncomputable def kindO (H : AH) : AV → Option Nat
  | .str _ => some 0
  | .ref k => match H.get k with
    | some (.list _) => some 1
    | some (.page d) => ob (dctOf H d) fun _ => some 2
    | some (.acc d _) => ob (dctOf H d) fun _ => some 3
    | _ => none
  | _ => none
noncomputable def okKind (kd : Nat) (n : Me) : Bool := match n with
  | .append => Nat.beq kd 1 || Nat.beq kd 3
  | .join => Nat.beq kd 0
  | .split => Nat.beq kd 0
  | .isspace => Nat.beq kd 0
  | .index => Nat.beq kd 0
  | .chunk => Nat.beq kd 2
  | .str_ => Nat.beq kd 2
  | .newline => Nat.beq kd 2
  | _ => Nat.beq kd 3
noncomputable def sameKind (a : Nat) : Option Nat → Bool
  | some b => Nat.beq a b
  | none => false
noncomputable def evCallM (f : Fns) (F : AF) (H : AH) (o : AX) (n : Me) (es : List AX) : Option (AV × AH) := ob2 (f.ev F H o) fun ov H => ob (kindO H ov) fun kd => cond (okKind kd n) (ob2 (evs f F H es) fun vs H => cond (sameKind kd (kindO H ov)) (callMeth f H ov n vs) none) none
noncomputable def starTup (H : AH) : AV → Option (List AV)
  | .ref k => match H.get k with
    | some (.tup vs) => cond (Nat.ble vs.length 4096) (some vs) none
    | _ => none
  | _ => none
noncomputable def isPush : Me → Bool
  | .push => true
  | _ => false
noncomputable def evCallS (f : Fns) (F : AF) (H : AH) (o : AX) (n : Me) (e : AX) : Option (AV × AH) := ob2 (f.ev F H o) fun ov H => ob (kindO H ov) fun kd => cond (Nat.beq kd 3 && isPush n) (ob2 (f.ev F H e) fun t H => ob (starTup H t) fun vs => cond (sameKind kd (kindO H ov)) (callMeth f H ov n vs) none) none

/-- the values of range(a, b, c), a step of 1 or -1 -/
noncomputable def upFrom (a : Int) : Nat → List AV
  | 0 => []
  | n + 1 => .int (.lit a) :: upFrom (a + 1) n
noncomputable def downFrom (a : Int) : Nat → List AV
  | 0 => []
  | n + 1 => .int (.lit a) :: downFrom (a - 1) n
noncomputable def litOf : AV → Option Int
  | .int (.lit a) => some a
  | _ => none
noncomputable def okR (a : Int) : Bool := ilt (-5000) a && ilt a 5000
noncomputable def rangeItems : List AV → Option (List AV)
  | [b] => ob (litOf b) fun b => cond (okR b) (some (upFrom 0 b.toNat)) none
  | [a, b] => ob (litOf a) fun a => ob (litOf b) fun b => cond (okR a && okR b) (some (upFrom a (b - a).toNat)) none
  | [a, b, c] => ob (litOf a) fun a => ob (litOf b) fun b => ob (litOf c) fun c => cond (okR a && okR b && ieq c (-1)) (some (downFrom a (a - b).toNat)) none
  | _ => none
noncomputable def itersOf (H : AH) : AV → Option IT
  | .str x => some (.items (x.map fun c => .str [c]))
  | .ref k => match H.get k with
    | some (.list _) => some (.lst k 0)
    | _ => none
  | _ => none
/-- the next item, if there is one, and what is yet to come -/
noncomputable def nextIT (H : AH) : IT → Option (Option (AV × IT))
  | .items [] => some none
  | .items (x :: xs) => some (some (x, .items xs))
  | .lst k j => match H.get k with
    | some (.list xs) => match nth xs j with
      | some x => some (some (x, .lst k (j + 1)))
      | none => some none
    | _ => none
/-- what a for runs over -/
noncomputable def iterOf (f : Fns) (F : AF) (H : AH) (e : AX) : Option (IT × AH) := match e with
  | .rng es => ob2 (evs f F H es) fun vs H => ob (rangeItems vs) fun l => some (.items l, H)
  | e => ob2 (f.ev F H e) fun v H => ob (itersOf H v) fun l => some (l, H)

noncomputable def AF.store (F : AF) (i : Nat) (v : AV) : AF := ⟨F.loc.put 10 i v, F.cel⟩
noncomputable def storeC (F : AF) (H : AH) (i : Nat) (v : AV) : Option AH := ob (celAt i F.cel) fun k => match H.get k with
    | some (.cell _) => some (H.set k (.cell (some v)))
    | _ => none
noncomputable def storeN (F : AF) : List Nat → List AV → Option AF
  | [], [] => some F
  | i :: is, v :: vs => storeN (F.store i v) is vs
  | _, _ => none

noncomputable def compCells (F : AF) : List (Nat × Nat) → Option (List (Nat × Nat))
  | [] => some []
  | p :: r => ob (celAt p.2 F.cel) fun k => ob (compCells F r) fun l => some ((p.1, k) :: l)
noncomputable def evComp (f : Fns) (F : AF) (H : AH) (elt : AX) (gs : List (Nat × AX × List AX)) (cs : List (Nat × Nat)) : Option (AV × AH) := match gs with
  | g :: gs => ob (compCells F cs) fun cl => ob2 (iterOf f F H g.2.1) fun xs H => cond (okN H) (ob (f.items ⟨.nil, cl⟩ (H.push (.list [])) H.n elt g.1 g.2.2 gs xs) fun H' => some (.ref H.n, H')) none
  | [] => none
noncomputable def stepEv (f : Fns) (F : AF) (H : AH) (e : AX) : Option (AV × AH) := match e with
  | .cst v => some (v, H)
  | .loc i => wv H (F.loc.get i)
  | .cel i => wv H (evCel F H i)
  | .bin l op r => evBin f F H l op r
  | .not x => evNot f F H x
  | .cmp l op r => evCmp f F H l op r
  | .bool a es => evBool f F H a es
  | .ite t b o => evIf f F H t b o
  | .slc v l u => evSlice f F H v l u
  | .itm v i => evItem f F H v i
  | .att v n => evAttr f F H v n
  | .lst es => evList f F H es
  | .tup es => evTup f F H es
  | .callT a es => evCallT f F H a es
  | .callB b es => evCallB f F H b es
  | .rng _ => none
  | .callM o n es => evCallM f F H o n es
  | .callS o n e => evCallS f F H o n e
  | .comp elt gs cs => evComp f F H elt gs cs

/-- ifs of a comprehension -/
noncomputable def testAll (f : Fns) (F : AF) : AH → List AX → Option (Bool × AH)
  | H, [] => some (true, H)
  | H, e :: r => ob2 (f.tr F H e) fun b H => cond b (testAll f F H r) (some (false, H))
noncomputable def addTo (H : AH) (k : Nat) (v : AV) : Option AH := match H.get k with
  | some (.list xs) => cond (Nat.ble xs.length 4096) (some (H.set k (.list (xs ++ [v])))) none
  | _ => none
noncomputable def stepComp (f : Fns) (F : AF) (H : AH) (acc : Nat) (elt : AX) (gs : List (Nat × AX × List AX)) : Option AH := match gs with
  | [] => ob2 (f.ev F H elt) fun v H => addTo H acc v
  | g :: gs => ob2 (iterOf f F H g.2.1) fun xs H => f.items F H acc elt g.1 g.2.2 gs xs
noncomputable def oneItem (f : Fns) (F : AF) (H : AH) (acc : Nat) (elt : AX) (ifs : List AX) (gs : List (Nat × AX × List AX)) : Option AH := ob2 (testAll f F H ifs) fun b H => cond b (f.comp F H acc elt gs) (some H)
noncomputable def noneAt (F : AF) (i : Nat) : Bool := match F.loc.get i with
  | some _ => false
  | none => true
noncomputable def stepItems (f : Fns) (F : AF) (H : AH) (acc : Nat) (elt : AX) (i : Nat) (ifs : List AX) (gs : List (Nat × AX × List AX)) (it : IT) : Option AH := match nextIT H it with
  | some none => some H
  | some (some p) => cond (noneAt F i) (ob (oneItem f (F.store i p.1) H acc elt ifs gs) fun H => f.items F H acc elt i ifs gs p.2) none
  | none => none

noncomputable def allTr (f : Fns) (F : AF) (isAnd : Bool) : AH → List AX → Option (Bool × AH)
  | H, [] => some (isAnd, H)
  | H, e :: r => match r with
    | [] => f.tr F H e
    | _ :: _ => ob2 (f.tr F H e) fun b H => cond (b == isAnd) (allTr f F isAnd H r) (some (b, H))
noncomputable def trVal (r : Option (AV × AH)) : Option (Bool × AH) := ob2 r fun v H => ob (truth H v) fun b => some (b, H)
noncomputable def trNot (r : Option (Bool × AH)) : Option (Bool × AH) := ob2 r fun b H => some (!b, H)
noncomputable def trIf (f : Fns) (F : AF) (H : AH) (t b o : AX) : Option (Bool × AH) := ob2 (f.tr F H t) fun c H => cond c (f.tr F H b) (f.tr F H o)
noncomputable def stepTr (f : Fns) (F : AF) (H : AH) (e : AX) : Option (Bool × AH) := match e with
  | .bool a es => allTr f F a H es
  | .cmp l op r => trVal (evCmp f F H l op r)
  | .ite t b o => trIf f F H t b o
  | .not x => trNot (f.tr F H x)
  | e => trVal (f.ev F H e)

noncomputable def unpackA (H : AH) (v : AV) : Option (List AV) := match v with
  | .ref k => match H.get k with
    | some (.list xs) => some xs
    | some (.tup xs) => some xs
    | _ => none
  | _ => none
noncomputable def exRet (F : AF) (r : Option (AV × AH)) : Option (Fl × AF × AH) := ob2 r fun v H => some (.ret v, F, H)
noncomputable def exLoc (F : AF) (i : Nat) (r : Option (AV × AH)) : Option (Fl × AF × AH) := ob2 r fun v H => some (.next, F.store i v, H)
noncomputable def nextH (F : AF) (H : Option AH) : Option (Fl × AF × AH) := ob H fun H => some (.next, F, H)
noncomputable def exCel (F : AF) (i : Nat) (r : Option (AV × AH)) : Option (Fl × AF × AH) := ob2 r fun v H => nextH F (storeC F H i v)
noncomputable def exNames (F : AF) (is : List Nat) (r : Option (AV × AH)) : Option (Fl × AF × AH) := ob2 r fun v H => ob (unpackA H v) fun vs => ob (storeN F is vs) fun F => some (.next, F, H)
noncomputable def exAttr (f : Fns) (F : AF) (H : AH) (o : AX) (n : Nat) (e : AX) : Option (Fl × AF × AH) := ob2 (f.ev F H e) fun v H => ob2 (f.ev F H o) fun o H => nextH F (setAttrA H o n v)
noncomputable def setSlice (H : AH) (o l v : AV) : Option AH := match o, v with
  | .ref k, .ref j => match H.get k, H.get j with
    | some (.acc d xs), some (.list ys) => ob (bnd 0 xs.length l) fun a => cond (Nat.ble xs.length 4096 && Nat.ble ys.length 4096) (some (H.set k (.acc d (xs.take a ++ ys)))) none
    | _, _ => none
  | _, _ => none
noncomputable def exSlice (f : Fns) (F : AF) (H : AH) (o lo e : AX) : Option (Fl × AF × AH) := ob2 (f.ev F H e) fun v H => ob2 (f.ev F H o) fun o H => ob2 (f.ev F H lo) fun l H => nextH F (setSlice H o l v)
noncomputable def isInt : AV → Bool
  | .int _ => true
  | _ => false
noncomputable def exAug (f : Fns) (F : AF) (H : AH) (i : Nat) (op : BOp) (e : AX) : Option (Fl × AF × AH) := ob (F.loc.get i) fun a => ob2 (f.ev F H e) fun b H => cond (isInt a && isInt b) (exLoc F i (wv H (binop op a b))) none
noncomputable def exIf (f : Fns) (F : AF) (r : Option (Bool × AH)) (b o : List AS) : Option (Fl × AF × AH) := ob2 r fun c H => cond c (f.exs F H b) (f.exs F H o)
noncomputable def exFor (f : Fns) (F : AF) (i : Nat) (r : Option (IT × AH)) (b o : List AS) : Option (Fl × AF × AH) := ob2 r fun xs H => f.loop F H i xs b o
noncomputable def exExpr (F : AF) (r : Option (AV × AH)) : Option (Fl × AF × AH) := ob2 r fun _ H => some (.next, F, H)
noncomputable def exRooms (F : AF) (x y z : Nat) (r : Option (AV × AH)) : Option (Fl × AF × AH) := ob2 r fun v H => ob (roomsOf H v) fun p => some (.next, ((F.store x .script).store y (.int p.1)).store z (.int p.2), H)
noncomputable def stepEx (f : Fns) (F : AF) (H : AH) (s : AS) : Option (Fl × AF × AH) := match s with
  | .ret e => exRet F (f.ev F H e)
  | .setL i e => exLoc F i (f.ev F H e)
  | .setC i e => exCel F i (f.ev F H e)
  | .setN is e => exNames F is (f.ev F H e)
  | .setA o n e => exAttr f F H o n e
  | .setS o l e => exSlice f F H o l e
  | .aug i op e => exAug f F H i op e
  | .ite t b o => exIf f F (f.tr F H t) b o
  | .loop i it b o => exFor f F i (iterOf f F H it) b o
  | .expr e => exExpr F (f.ev F H e)
  | .rooms x y z o => exRooms F x y z (f.ev F H o)
  | .brk => some (.brk, F, H)
  | .cont => some (.cont, F, H)
  | .bad => none

noncomputable def thenExs (f : Fns) (r : Option (Fl × AF × AH)) (ss : List AS) : Option (Fl × AF × AH) := ob3 r fun fl F H => match fl with
    | .next => f.exs F H ss
    | .brk => some (.brk, F, H)
    | .cont => some (.cont, F, H)
    | .ret v => some (.ret v, F, H)
noncomputable def stepExs (f : Fns) (F : AF) (H : AH) (ss : List AS) : Option (Fl × AF × AH) := match ss with
  | [] => some (.next, F, H)
  | s :: r => thenExs f (f.ex F H s) r

noncomputable def thenLoop (f : Fns) (r : Option (Fl × AF × AH)) (i : Nat) (xs : IT) (b o : List AS) : Option (Fl × AF × AH) := ob3 r fun fl F H => match fl with
    | .next => f.loop F H i xs b o
    | .cont => f.loop F H i xs b o
    | .brk => some (.next, F, H)
    | .ret v => some (.ret v, F, H)
noncomputable def stepLoop (f : Fns) (F : AF) (H : AH) (i : Nat) (it : IT) (b o : List AS) : Option (Fl × AF × AH) := match nextIT H it with
  | some none => f.exs F H o
  | some (some p) => thenLoop f (f.exs (F.store i p.1) H b) i p.2 b o
  | none => none

/-- a def: its parameters fill the first places -/
structure FnI where
  np : Nat
  dflt : List AV
  body : List AS
noncomputable def fillT : Nat → List AV → Tr AV → Tr AV
  | _, [], t => t
  | n, v :: vs, t => fillT (Nat.succ n) vs (t.put 10 n v)
noncomputable def retOf (r : Option (Fl × AF × AH)) : Option (AV × AH) := ob3 r fun fl _ H => match fl with
    | .ret v => some (v, H)
    | .next => some (.none, H)
    | _ => none
noncomputable def fullArgs (np : Nat) (dflt args : List AV) : List AV := cond (Nat.blt args.length np) (args ++ dflt) args
noncomputable def stepCallI (f : Fns) (H : AH) (i : FnI) (args : List AV) : Option (AV × AH) :=
  cond (Nat.beq (fullArgs i.np i.dflt args).length i.np) (retOf (f.exs ⟨fillT 0 (fullArgs i.np i.dflt args) .nil, []⟩ H i.body)) none
noncomputable def stepCall (fnAt : Nat → Option FnI) (f : Fns) (H : AH) (a : Nat) (args : List AV) : Option (AV × AH) := ob (fnAt a) fun i => stepCallI f H i args

noncomputable def step (fnAt : Nat → Option FnI) (f : Fns) : Fns where
  ev := stepEv f
  tr := stepTr f
  ex := stepEx f
  exs := stepExs f
  loop := stepLoop f
  call := stepCall fnAt f
  comp := stepComp f
  items := stepItems f
noncomputable def botF : Fns := ⟨fun _ _ _ => none, fun _ _ _ => none, fun _ _ _ => none, fun _ _ _ => none, fun _ _ _ _ _ _ => none, fun _ _ _ => none, fun _ _ _ _ _ => none, fun _ _ _ _ _ _ _ _ => none⟩
noncomputable def run (fnAt : Nat → Option FnI) (n : Nat) : Fns := @Nat.rec (fun _ => Fns) botF (fun _ f => step fnAt f) n
end Mine
namespace Mine
open PySem

noncomputable def slot (x : Str) : Nat → List (Str × NameKind) → Option (Nat × NameKind)
  | _, [] => none
  | n, p :: r => cond (se x p.1) (some (n, p.2)) (slot x (n + 1) r)
noncomputable def assoc {β : Type} (x : Str) : List (Str × β) → Option β
  | [] => none
  | p :: r => cond (se x p.1) (some p.2) (assoc x r)
noncomputable def gvals : List (Str × AV) := [("NL", .str [10]), ("EMPTYSTRING", .str []), ("NT_OFFSET", .int (.lit 256)), ("EXACT_TOKEN_TYPES", .top 197)]
noncomputable def gtops : List (Str × Nat) := [("_ValueFormatter", 94), ("_Accumulator", 178), ("iadd", 189), ("imul", 196), ("ISTERMINAL", 206), ("_law_text", 220), ("_law_grow", 227), ("_law_worth", 234), ("_law_told", 241), ("_law_due", 248)]
noncomputable def gbufs : List (Str × BF) := [("len", .len), ("ord", .ord), ("chr", .chr), ("str", .str)]
noncomputable def meths : List (Str × Me) := [("append", .append), ("join", .join), ("split", .split), ("isspace", .isspace), ("index", .index), ("_append_chunk", .chunk), ("_str", .str_), ("newline", .newline),
  ("push", .push), ("pop_from", .popFrom), ("reset", .reset), ("is_onlyws", .onlyws), ("part_count", .count), ("pop", .pop)]
noncomputable def indexOf (x : Str) : Nat → List Str → Option Nat
  | _, [] => none
  | n, p :: r => cond (se x p) (some n) (indexOf x (n + 1) r)
noncomputable def attrId (x : Str) : Option Nat := indexOf x 0 attrs

noncomputable def constA : Const → Option AV
  | .int i => some (.int (.lit i))
  | .str x => cond (x.cps.toList.all fun c => Nat.blt c fakeAt) (some (.str x.cps.toList)) none
  | .none => some .none
  | .bool b => some (.bool (.lit b))
  | _ => none
noncomputable def bopOf : Operator → Option BOp
  | .Add => some .add
  | .Sub => some .sub
  | .Mult => some .mul
  | .FloorDiv => some .div
  | .Mod => some .mod
  | _ => none
noncomputable def copOf : CmpOp → Option COp
  | .Lt => some .lt
  | .LtE => some .le
  | .Gt => some .gt
  | .Eq => some .eq
  | .NotEq => some .ne
  | .Is => some .is
  | .IsNot => some .isNot
  | _ => none
noncomputable abbrev Names := List (Str × NameKind)

noncomputable def cvName (ns : Names) (x : Str) : Option AX := cond (se x "__debug__") none (ob2 (slot x 0 ns) fun i k => match k with
    | .local => some (.loc i)
    | .cell => some (.cel i)
    | .free => cond (se x "__classdict__") none (some (.cel i))
    | .globalImplicit => ob (assoc x gvals) fun v => some (.cst v)
    | _ => none)
noncomputable def isGlobal (ns : Names) (x : Str) : Bool := match slot x 0 ns with
  | some (_, k) => match k with
    | .globalImplicit => true
    | _ => false
  | none => false
noncomputable def mapO {α β : Type} (g : α → Option β) : List α → Option (List β)
  | [] => some []
  | x :: r => ob (g x) fun y => ob (mapO g r) fun l => some (y :: l)
noncomputable def cvCallN (g : Expr → Option AX) (x : Str) (args : List Expr) : Option AX := ob (mapO g args) fun es => match assoc x gtops with
    | some a => some (.callT a es)
    | none => match assoc x gbufs with
      | some b => some (.callB b es)
      | none => cond (se x "range") (some (.rng es)) none
/-- not a call of super -/
noncomputable def notSuper : Expr → Bool
  | .Call (.Name x _) _ _ _ => !se x "super"
  | _ => true
noncomputable def starOf : List Expr → Option Expr
  | [.Starred e _] => some e
  | _ => none
noncomputable def cvCallM (g : Expr → Option AX) (o : Expr) (n : Str) (args : List Expr) : Option AX := ob (g o) fun o => ob (assoc n meths) fun n => match starOf args with
      | some e => ob (g e) fun e => some (.callS o n e)
      | none => ob (mapO g args) fun es => some (.callM o n es)
noncomputable def cvPart (g : Expr → Option AX) : Option Expr → Option AX
  | none => some (.cst .none)
  | some e => g e
noncomputable def cvSub (g : Expr → Option AX) (v i : Expr) : Option AX := ob (g v) fun v => match i with
    | .Slice lo up st _ => match st with
      | none => ob (cvPart g lo) fun lo => ob (cvPart g up) fun up => some (.slc v lo up)
      | some _ => none
    | i => ob (g i) fun i => some (.itm v i)
noncomputable def nameLoc (ns : Names) : Expr → Option Nat
  | .Name x _ => ob2 (slot x 0 ns) fun i k => match k with
      | .local => some i
      | _ => none
  | _ => none
/-- the free names of a comprehension: their place there, their place outside -/
noncomputable def cvFree (ns : Names) : Nat → Names → Option (List (Nat × Nat))
  | _, [] => some []
  | n, p :: r => ob (cvFree ns (n + 1) r) fun l => match p.2 with
      | .free => ob2 (slot p.1 0 ns) fun i k => match k with
          | .cell => some ((n, i) :: l)
          | .free => some ((n, i) :: l)
          | _ => none
      | .local => some l
      | .globalImplicit => some l
      | _ => none
noncomputable def cvGens (gi g : Expr → Option AX) (ns : Names) : List Comprehension → Option (List (Nat × AX × List AX))
  | [] => some []
  | ⟨t, it, ifs, as⟩ :: r => cond (ieq as 0) (ob (nameLoc ns t) fun i => ob (gi it) fun it => ob (mapO g ifs) fun ifs => ob (cvGens g g ns r) fun r => some ((i, it, ifs) :: r)) none
noncomputable def isLoc (ns : Names) (x : Str) : Bool := match slot x 0 ns with
  | some (_, .local) => true
  | _ => false
/-- a local name is found as such -/
noncomputable def locsOk (ns : Names) : Names → Bool
  | [] => true
  | p :: r => (match p.2 with
    | .local => isLoc ns p.1
    | _ => true) && locsOk ns r
noncomputable def isFn : ScopeKind → Bool
  | .function => true
  | _ => false
/-- g: over the outer names; h: over the comprehension's -/
noncomputable def cvComp (g h : Expr → Option AX) (ns : Names) (elt : Expr) (gs : List Comprehension) (sc : Scope) : Option AX := ob (h elt) fun elt => ob (cvGens g h sc.names gs) fun gs => ob (cvFree ns 0 sc.names) fun cs => cond (isFn sc.kind && Nat.blt sc.names.length 1000 && locsOk sc.names sc.names) (some (.comp elt gs cs)) none
noncomputable def cvNeg : Expr → Option AX
  | .Constant c _ _ => match c with
    | .int i => some (.cst (.int (.lit (-i))))
    | _ => none
  | _ => none
noncomputable def cvUn (g : Expr → Option AX) (op : UnaryOp) (x : Expr) : Option AX := match op with
  | .USub => cvNeg x
  | .Not => ob (g x) fun x => some (.not x)
  | _ => none
noncomputable def cvCmp (g : Expr → Option AX) (l : Expr) : List CmpOp → List Expr → Option AX
  | [op], [r] => ob (g l) fun l => ob (copOf op) fun op => ob (g r) fun r => some (.cmp l op r)
  | _, _ => none
noncomputable def cvCall (g : Expr → Option AX) (ns : Names) (pos : Pos) (fn : Expr) (args : List Expr) (kws : List Keyword) : Option AX := match kws with
  | [] => match fn with
    | .Name x _ => cond (isGlobal ns x && Nat.blt args.length 29 && !se x "__debug__") (cvCallN g x args) none
    | .Attribute o n p => cond (Nat.beq p.endLine pos.line && Nat.blt args.length 29 && notSuper o) (cvCallM g o n args) none
    | _ => none
  | _ :: _ => none
noncomputable def cvAtt (g : Expr → Option AX) (v : Expr) (n : Str) : Option AX := ob (g v) fun v => ob (attrId n) fun n => some (.att v n)
noncomputable def isAndOp : BoolOp → Bool
  | .And => true
  | .Or => false

noncomputable def cvStep (c : Names → Expr → Option AX) (ns : Names) (e : Expr) : Option AX := match e with
  | .Constant k _ _ => ob (constA k) fun v => some (.cst v)
  | .Name x _ => cvName ns x
  | .BinOp l op r _ => ob (c ns l) fun l => ob (bopOf op) fun op => ob (c ns r) fun r => some (.bin l op r)
  | .UnaryOp op x _ => cvUn (c ns) op x
  | .Compare l ops rs _ => cvCmp (c ns) l ops rs
  | .BoolOp op es _ => ob (mapO (c ns) es) fun es => some (.bool (isAndOp op) es)
  | .IfExp t b o _ => ob (c ns t) fun t => ob (c ns b) fun b => ob (c ns o) fun o => some (.ite t b o)
  | .Subscript v i _ => cvSub (c ns) v i
  | .Attribute v n _ => cond (notSuper v) (cvAtt (c ns) v n) none
  | .List es _ => ob (mapO (c ns) es) fun es => some (.lst es)
  | .Tuple es _ _ => ob (mapO (c ns) es) fun es => some (.tup es)
  | .Call fn args kws pos => cvCall (c ns) ns pos fn args kws
  | .ListComp elt gs sc _ => cvComp (c ns) (c sc.names) ns elt gs sc
  | _ => none
noncomputable def cv (n : Nat) : Names → Expr → Option AX := @Nat.rec (fun _ => Names → Expr → Option AX) (fun _ _ => none) (fun _ ih => cvStep ih) n

noncomputable def csName (ns : Names) (x : Str) (e : AX) : Option AS := ob2 (slot x 0 ns) fun i k => match k with
    | .local => some (.setL i e)
    | .cell => some (.setC i e)
    | _ => none
noncomputable def csSub (g : Expr → Option AX) (o i : Expr) (e : AX) : Option AS := ob (g o) fun o => match i with
    | .Slice lo up st _ => match up, st with
      | none, none => ob (cvPart g lo) fun lo => some (.setS o lo e)
      | _, _ => none
    | _ => none
noncomputable def notTuple : Expr → Bool
  | .Tuple .. => false
  | _ => true
noncomputable def csTarget (g : Expr → Option AX) (ns : Names) (t : Expr) (E : Expr) (e : AX) : Option AS := match t with
  | .Name x _ => csName ns x e
  | .Tuple ts _ _ => cond (notTuple E) (ob (mapO (nameLoc ns) ts) fun is => some (.setN is e)) none
  | .Attribute o n _ => ob (g o) fun o => ob (attrId n) fun n => some (.setA o n e)
  | .Subscript o i _ => csSub g o i e
  | _ => none
/-- no list comprehension is bound to a local name of its own line (that one is swapped) -/
noncomputable def notComp : Expr → Bool
  | .ListComp .. => false
  | .SetComp .. => false
  | .DictComp .. => false
  | _ => true
noncomputable def csAssign (g : Expr → Option AX) (ns : Names) (ts : List Expr) (e : Expr) : Option AS := match ts with
  | [t] => ob (g e) fun e' => csTarget g ns t e e'
  | _ => none
noncomputable def csAug (g : Expr → Option AX) (ns : Names) (t : Expr) (op : Operator) (e : Expr) : Option AS := ob (nameLoc ns t) fun i => ob (bopOf op) fun op => ob (g e) fun e => match op with
    | .add => some (.aug i op e)
    | .mul => some (.aug i op e)
    | _ => none
noncomputable def csStep (g : Expr → Option AX) (ns : Names) (c : Stmt → Option AS) (s : Stmt) : Option AS := match s with
  | .Return e _ => ob (cvPart g e) fun e => some (.ret e)
  | .Assign ts e _ => csAssign g ns ts e
  | .AugAssign t op e _ => csAug g ns t op e
  | .If t b o _ => ob (g t) fun t => ob (mapO c b) fun b => ob (mapO c o) fun o => some (.ite t b o)
  | .For t it b o _ => ob (nameLoc ns t) fun i => ob (g it) fun it => ob (mapO c b) fun b => ob (mapO c o) fun o => some (.loop i it b o)
  | .Expr e _ => cond (notComp e) (ob (g e) fun e => some (.expr e)) none
  | .Break _ => some .brk
  | .Continue _ => some .cont
  | _ => none
/-- a statement that is not taken is bad: it stands, but may not be reached -/
noncomputable def orBad : Option AS → Option AS
  | some s => some s
  | none => some .bad
noncomputable def cs (m n : Nat) (ns : Names) : Stmt → Option AS := @Nat.rec (fun _ => Stmt → Option AS) (fun _ => none) (fun _ ih s => orBad (csStep (cv m ns) ns ih s)) n

/-- x = o._maxlengths(); y = next(x); z = next(x) -/
noncomputable def notDbg : Expr → Bool
  | .Name x _ => !se x "__debug__"
  | _ => false
noncomputable def asg1 : Stmt → Option (Expr × Expr)
  | .Assign ts e _ => match ts with
    | [t] => some (t, e)
    | _ => none
  | _ => none
noncomputable def callE : Expr → Option (Expr × List Expr × Pos)
  | .Call f as ks q => match ks with
    | [] => some (f, as, q)
    | _ => none
  | _ => none
noncomputable def attrE : Expr → Option (Expr × Str × Pos)
  | .Attribute o n p => some (o, n, p)
  | _ => none
noncomputable def nameE : Expr → Option Str
  | .Name x _ => some x
  | _ => none
noncomputable def one {α : Type} : List α → Option α
  | [a] => some a
  | _ => none
noncomputable def none? {α : Type} : List α → Bool
  | [] => true
  | _ => false
noncomputable def askTwo (ns : Names) (x : Nat) (s : Stmt) : Option Nat := ob2 (asg1 s) fun t e => ob3 (callE e) fun f as _ => ob (nameE f) fun f => ob (one as) fun a => ob (nameLoc ns t) fun y => ob (nameLoc ns a) fun x' => cond (se f "next" && isGlobal ns f && Nat.beq x x' && notDbg a) (some y) none
noncomputable def asRooms (g : Expr → Option AX) (ns : Names) (s s' s'' : Stmt) : Option AS := ob2 (asg1 s) fun t e => ob3 (callE e) fun f as q => ob3 (attrE f) fun o n p => cond (none? as) (cond (se n "_maxlengths" && Nat.beq p.endLine q.line && notSuper o) (ob (nameLoc ns t) fun x => ob (g o) fun o => ob (askTwo ns x s') fun y => ob (askTwo ns x s'') fun z => cond (Nat.beq x y || Nat.beq x z || Nat.beq y z) none (some (.rooms x y z o))) none) none
noncomputable def consO {α : Type} (a : Option α) (l : Option (List α)) : Option (List α) := ob a fun t => ob l fun l => some (t :: l)
noncomputable def roomsHere (m : Nat) (ns : Names) (s : Stmt) (r : List Stmt) : Option (AS × List Stmt) := match r with
  | s' :: s'' :: r' => ob (asRooms (cv m ns) ns s s' s'') fun t => some (t, r')
  | _ => none
noncomputable def csStepB (m n : Nat) (ns : Names) (ih : List Stmt → Option (List AS)) (l : List Stmt) : Option (List AS) := match l with
  | [] => some []
  | s :: r => match roomsHere m ns s r with
    | some p => consO (some p.1) (ih p.2)
    | none => consO (cs m n ns s) (ih r)
noncomputable def csBody (m n : Nat) (ns : Names) (k : Nat) : List Stmt → Option (List AS) := @Nat.rec (fun _ => List Stmt → Option (List AS)) (fun _ => none) (fun _ ih => csStepB m n ns ih) k

noncomputable def findDef (n : Str) : List Stmt → Option (Arguments × List Stmt × Scope)
  | [] => none
  | s :: r => match s with
    | .FunctionDef m a b _ _ _ sc _ _ _ => cond (se n m) (some (a, b, sc)) (findDef n r)
    | _ => findDef n r
noncomputable def findCls (n : Str) : List Stmt → List Stmt
  | [] => []
  | s :: r => match s with
    | .ClassDef m _ _ b _ _ _ _ _ _ _ => cond (se n m) b (findCls n r)
    | _ => findCls n r
noncomputable def topBody : List Stmt := PySem.Challenge.pw_yh0026_01.main.body
/-- statements left out: those that the law never reaches -/
noncomputable def fuelE : Nat := 24
noncomputable def fuelS : Nat := 12
noncomputable def paramsAt : Nat → List Arg → Names → Bool
  | _, [], _ => true
  | n, a :: r, ns => match slot a.arg 0 ns with
    | some (i, k) => match k with
      | .local => Nat.beq i n && paramsAt (n + 1) r ns
      | _ => false
    | none => false
noncomputable def noMore (a : Arguments) : Bool := a.posonlyargs.isEmpty && a.vararg.isNone && a.kwonlyargs.isEmpty && a.kwarg.isNone
noncomputable def fnI (dflt : List AV) : Option (Arguments × List Stmt × Scope) → Option FnI
  | some (a, b, sc) => ob (csBody fuelE fuelS sc.names 40 b) fun body => cond (isFn sc.kind && noMore a && paramsAt 0 a.args sc.names && Nat.blt sc.names.length 1000) (some ⟨a.args.length, dflt, body⟩) none
  | none => none
noncomputable def pageDef (n : Str) : Option (Arguments × List Stmt × Scope) := findDef n (findCls "_ValueFormatter" topBody)
noncomputable def accDef (n : Str) : Option (Arguments × List Stmt × Scope) := findDef n (findCls "_Accumulator" topBody)
noncomputable def ownDef (n : Str) : Option (Arguments × List Stmt × Scope) := findDef n topBody
/-- the defs that are run by their bodies: their addresses, what their last parameter is if it is not handed, their texts -/
noncomputable def defs : List (Nat × List AV × Option (Arguments × List Stmt × Scope)) := [(227, [], ownDef "_law_grow"), (91, [], pageDef "_append_chunk"), (122, [], accDef "push"), (234, [], ownDef "_law_worth"), (206, [], ownDef "ISTERMINAL"), (196, [], ownDef "imul"), (189, [], ownDef "iadd"),
  (35, [], pageDef "__init__"), (42, [], pageDef "_str"), (56, [], pageDef "newline"), (130, [], accDef "pop_from"), (160, [.none], accDef "reset"), (167, [], accDef "is_onlyws"), (220, [], ownDef "_law_text"), (241, [], ownDef "_law_told"), (248, [], ownDef "_law_due")]
noncomputable def defAt (a : Nat) : List (Nat × List AV × Option (Arguments × List Stmt × Scope)) → Option (List AV × Option (Arguments × List Stmt × Scope))
  | [] => none
  | p :: r => cond (Nat.beq a p.1) (some p.2) (defAt a r)
noncomputable def fnAt (a : Nat) : Option FnI := ob (defAt a defs) fun p => fnI p.1 p.2
end Mine
namespace Mine
open PySem PySem.W PyProof.Rows PySem.Calls

/-! tries -/
theorem Tr.get_nil {α : Type} (i : Nat) : (Tr.nil : Tr α).get i = none := rfl
theorem par : ∀ i : Nat, i = 0 ∨ (∃ q, i = 2 * q + 1) ∨ ∃ q, i = 2 * q + 2
  | 0 => .inl rfl
  | 1 => .inr (.inl ⟨0, rfl⟩)
  | i + 2 => .inr (match par i with
    | .inl h => .inr ⟨0, congrArg (· + 2) h⟩
    | .inr (.inl ⟨q, h⟩) => .inl ⟨q + 1, congrArg (· + 2) h⟩
    | .inr (.inr ⟨q, h⟩) => .inr ⟨q + 1, congrArg (· + 2) h⟩)
theorem odd_mod (q : Nat) : (2 * q + 1) % 2 = 1 ∧ (2 * q + 1) / 2 = q := ⟨Nat.mul_add_mod 2 q 1, Nat.mul_add_div (by decide) q 1⟩
theorem even_mod (q : Nat) : (2 * q + 2) % 2 = 0 ∧ (2 * q + 2) / 2 - 1 = q := ⟨Nat.mul_add_mod 2 q 2, congrArg (· - 1) (Nat.mul_add_div (by decide) q 2)⟩
theorem odd_even {p q : Nat} (h : 2 * p + 1 = 2 * q + 2) : False := by omega
theorem half_inj {p q : Nat} (h : 2 * p = 2 * q) : p = q := Nat.eq_of_mul_eq_mul_left (by decide) h
theorem half_lt {q n : Nat} (h : 2 * q + 1 + 1 < 2 ^ (n + 1)) : q + 1 < 2 ^ n := Nat.lt_of_mul_lt_mul_left (a := 2) (by rw [Nat.pow_succ, Nat.mul_comm (2 ^ n) 2] at h; exact h)
section
variable {α : Type} {v : Option α} {l r t : Tr α} {n q : Nat} {o : α}
theorem Tr.get_odd : (Tr.node v l r).get (2 * q + 1) = l.get q := by
  show cond (Nat.beq ((2 * q + 1) % 2) 1) (l.get ((2 * q + 1) / 2)) _ = _
  rw [(odd_mod q).1, (odd_mod q).2]; rfl
theorem Tr.get_even : (Tr.node v l r).get (2 * q + 2) = r.get q := by
  show cond (Nat.beq ((2 * q + 2) % 2) 1) _ (r.get ((2 * q + 2) / 2 - 1)) = _
  rw [(even_mod q).1, (even_mod q).2]; rfl
theorem Tr.eta (t : Tr α) (i : Nat) : t.get i = (Tr.node t.val t.left t.right).get i := by
  cases t with
  | node v l r => rfl
  | nil =>
    rcases par i with rfl | ⟨q, rfl⟩ | ⟨q, rfl⟩
    · rfl
    · exact (Tr.get_odd (v := none) (l := .nil) (r := .nil) (q := q)).symm
    · exact (Tr.get_even (v := none) (l := .nil) (r := .nil) (q := q)).symm
theorem Tr.put_odd : Tr.put (n + 1) t (2 * q + 1) o = .node t.val (Tr.put n t.left q o) t.right := by
  show cond (Nat.beq ((2 * q + 1) % 2) 1) (Tr.node t.val (Tr.put n t.left ((2 * q + 1) / 2) o) t.right) _ = _
  rw [(odd_mod q).1, (odd_mod q).2]; rfl
theorem Tr.put_even : Tr.put (n + 1) t (2 * q + 2) o = .node t.val t.left (Tr.put n t.right q o) := by
  show cond (Nat.beq ((2 * q + 2) % 2) 1) _ (Tr.node t.val t.left (Tr.put n t.right ((2 * q + 2) / 2 - 1) o)) = _
  rw [(even_mod q).1, (even_mod q).2]; rfl
end
theorem if_ne {α : Type} {a b : Nat} {x y : α} (h : a = b → False) : (if a = b then x else y) = y := if_neg h
theorem Tr.get_put {α : Type} (o : α) (n : Nat) : ∀ (t : Tr α) (i j : Nat), i + 1 < 2 ^ n → (Tr.put n t i o).get j = if j = i then some o else t.get j := by
  induction n with
  | zero => intro t i j h; exact absurd h (Nat.not_lt_of_le (Nat.le_add_left 1 i))
  | succ n ih =>
    intro t i j h
    rw [Tr.eta t j]
    rcases par i with rfl | ⟨q, rfl⟩ | ⟨q, rfl⟩
    · rcases par j with rfl | ⟨p, rfl⟩ | ⟨p, rfl⟩
      · rfl
      · rw [if_ne fun z => Nat.succ_ne_zero _ z]; exact Tr.get_odd.trans Tr.get_odd.symm
      · rw [if_ne fun z => Nat.succ_ne_zero _ z]; exact Tr.get_even.trans Tr.get_even.symm
    · rw [Tr.put_odd]
      rcases par j with rfl | ⟨p, rfl⟩ | ⟨p, rfl⟩
      · rw [if_ne fun z => Nat.succ_ne_zero _ z.symm]; rfl
      · rw [Tr.get_odd, Tr.get_odd, ih _ _ _ (half_lt h)]
        by_cases e : p = q
        · rw [e, if_pos rfl, if_pos rfl]
        · rw [if_neg e, if_ne fun z => e (half_inj (Nat.succ.inj z))]
      · rw [Tr.get_even, Tr.get_even, if_ne fun z => odd_even z.symm]
    · rw [Tr.put_even]
      rcases par j with rfl | ⟨p, rfl⟩ | ⟨p, rfl⟩
      · rw [if_ne fun z => Nat.succ_ne_zero _ z.symm]; rfl
      · rw [Tr.get_odd, Tr.get_odd, if_ne odd_even]
      · rw [Tr.get_even, Tr.get_even, ih _ _ _ (half_lt (Nat.lt_of_succ_lt h))]
        by_cases e : p = q
        · rw [e, if_pos rfl, if_pos rfl]
        · rw [if_neg e, if_ne fun z => e (half_inj (Nat.succ.inj (Nat.succ.inj z)))]

/-! texts -/
theorem nlb_t {a : List Nat} : ∀ {b : List Nat}, nlb a b = true → a = b := by
  induction a with
  | nil =>
    intro b h
    cases b with
    | nil => rfl
    | cons y b => cases h
  | cons x a ih =>
    intro b h
    cases b with
    | nil => cases h
    | cons y b =>
      obtain ⟨h1, h2⟩ := and_t h
      rw [beq_t h1, ih h2]
theorem nlb_refl (a : List Nat) : nlb a a = true := by
  induction a with
  | nil => rfl
  | cons x a ih =>
    show (Nat.beq x x && nlb a a) = true
    rw [ih, Nat.beq_refl]; rfl
theorem nlb_iff {a b : List Nat} : nlb a b = true ↔ a = b := ⟨nlb_t, fun e => e ▸ nlb_refl a⟩
theorem nlb_false {a b : List Nat} (h : nlb a b = false) : a ≠ b := fun e => by rw [nlb_iff.mpr e] at h; cases h
theorem se_iff {a b : Str} : se a b = true ↔ a = b :=
  ⟨fun h => match a, b, nlb_t (a := a.cps.toList) (b := b.cps.toList) h with | ⟨⟨_⟩⟩, ⟨⟨_⟩⟩, rfl => rfl, fun e => e ▸ nlb_refl _⟩
theorem se_false {a b : Str} (h : se a b = false) : a ≠ b := fun e => by rw [se_iff.mpr e] at h; cases h
theorem ieq_iff {a b : Int} : ieq a b = true ↔ a = b := by
  cases a with
  | ofNat m =>
    cases b with
    | ofNat n => exact ⟨fun h => congrArg _ (beq_t h), fun h => Int.ofNat.inj h ▸ Nat.beq_refl m⟩
    | negSucc n => exact ⟨fun h => (nomatch h), fun h => (nomatch h)⟩
  | negSucc m =>
    cases b with
    | ofNat n => exact ⟨fun h => (nomatch h), fun h => (nomatch h)⟩
    | negSucc n => exact ⟨fun h => congrArg _ (beq_t h), fun h => Int.negSucc.inj h ▸ Nat.beq_refl m⟩
theorem ilt_iff {a b : Int} : ilt a b = true ↔ a < b := Z.ltB_iff a b

/-! what the letters stand for -/
structure Th where
  v : Nat → Int
  b : Nat
  hd : Nat
  c : Int
  r : Nat
noncomputable def Th.sg (θ : Th) (k : Nat) : Nat := signs13.getD (θ.b + k) 0
noncomputable def Th.ch (θ : Th) (c : Nat) : Nat := if c < fakeAt then c else θ.sg (c - fakeAt)
noncomputable def Th.tx (θ : Th) (x : List Nat) : Str := ⟨(x.map θ.ch).toArray⟩
structure Th.Ok (θ : Th) : Prop where
  b : θ.b < 11
  hd : θ.hd < 4
  c : θ.c.fmod 11 = θ.b
  rest4 : (θ.c.fdiv 11).fmod 4 = θ.hd
  r : ((θ.c.fdiv 11).fdiv 4).fmod 162 = θ.r
  bits : ∀ n, Builtin.Int.intBits (θ.v n) ≤ vbits

noncomputable def PE.eval (f : Nat → Int) : PE → Int
  | .v n => f n
  | .lit i => i
  | .add a b => a.eval f + b.eval f
  | .mul a b => a.eval f * b.eval f
noncomputable def AIs (θ : Th) : AI → Int → Prop
  | .lit i, x => x = i
  | .off i, x => x = i + θ.b
  | .hof i, x => x = i + θ.hd
  | .sym p, x => x = p.eval θ.v
  | .c10 r, x => x = θ.c ∧ θ.r = r
  | .rest r, x => x = θ.c.fdiv 11 ∧ θ.r = r
  | .cyc m r, x => 0 < m ∧ x.emod m = r
noncomputable def AB.is (θ : Th) : AB → Bool
  | .lit b => b
  | .lt p i => decide (p.eval θ.v < i)

noncomputable def VRel (θ : Th) (ρ : List Addr) : AV → Value → Prop
  | .none, x => x = .none
  | .bool t, x => x = .bool (t.is θ)
  | .int a, x => ∃ i t, x = .int i t ∧ AIs θ a i
  | .str l, x => ∃ t, x = .str (θ.tx l) t
  | .tabs, x => ∃ t, x = .str ⟨(List.replicate θ.hd 9).toArray⟩ t
  | .ref k, x => ∃ a, ρ[k]? = some a ∧ x = .ref a
  | .top n, x => x = .ref n
  | .script, _ => True
inductive All2 {α β : Type} (R : α → β → Prop) : List α → List β → Prop
  | nil : All2 R [] []
  | cons {a b as bs} : R a b → All2 R as bs → All2 R (a :: as) (b :: bs)
section
variable {α β : Type} {R R' : α → β → Prop} {as as' : List α} {bs bs' : List β}
theorem All2.imp (h : ∀ a b, R a b → R' a b) (H : All2 R as bs) : All2 R' as bs := by
  induction H with
  | nil => exact .nil
  | cons x _ ih => exact .cons (h _ _ x) ih
theorem All2.length (H : All2 R as bs) : as.length = bs.length := by
  induction H with
  | nil => rfl
  | cons _ _ ih => exact congrArg (· + 1) ih
theorem All2.append (H : All2 R as bs) (h : All2 R as' bs') : All2 R (as ++ as') (bs ++ bs') := by
  induction H with
  | nil => exact h
  | cons x _ ih => exact .cons x ih
theorem All2.take (n : Nat) (H : All2 R as bs) : All2 R (as.take n) (bs.take n) := by
  induction H generalizing n with
  | nil => rw [List.take_nil, List.take_nil]; exact .nil
  | cons x _ ih =>
    cases n with
    | zero => exact .nil
    | succ n => exact .cons x (ih n)
theorem All2.drop (n : Nat) (H : All2 R as bs) : All2 R (as.drop n) (bs.drop n) := by
  induction H generalizing n with
  | nil => rw [List.drop_nil, List.drop_nil]; exact .nil
  | cons x h ih =>
    cases n with
    | zero => exact .cons x h
    | succ n => exact ih n
end
theorem All2.nth {α β : Type} {R : α → β → Prop} {as : List α} {bs : List β} (H : All2 R as bs) : ∀ {n : Nat} {a : α}, nth as n = some a → ∃ b, bs[n]? = some b ∧ R a b := by
  induction H with
  | nil => intro n a e; cases n <;> cases e
  | cons x _ ih =>
    intro n a e
    cases n with
    | zero => exact ⟨_, rfl, Option.some.inj e ▸ x⟩
    | succ n => exact ih e

/-- a dict of fields -/
noncomputable def EntRel (θ : Th) (ρ : List Addr) (p : Nat × AV) (e : DictEntry) : Prop := ∃ x t, attrs[p.1]? = some x ∧ e.key = .str x t ∧ VRel θ ρ p.2 e.val
noncomputable def ORel (θ : Th) (ρ : List Addr) : AO → Obj → Prop
  | .list xs, o => ∃ vs n, o = { cls := .type "list", data := .seq vs n } ∧ All2 (VRel θ ρ) xs vs.toList
  | .tup xs, o => ∃ vs n, o = { cls := .type "tuple", data := .seq vs n } ∧ All2 (VRel θ ρ) xs vs.toList
  | .dct es, o => ∃ ds n, o = dictOf ds n ∧ All2 (EntRel θ ρ) es ds
  | .page d, o => ∃ a, ρ[d]? = some a ∧ o = instObj 94 a
  | .acc d xs, o => ∃ a vs n, ρ[d]? = some a ∧ o = { cls := .ref 178, dict := some a, data := .seq vs n } ∧ All2 (VRel θ ρ) xs vs.toList
  | .cell v, o => ∃ w, o.data = .cell w ∧ (match v with | none => True | some av => ∃ x, w = some x ∧ VRel θ ρ av x)

theorem mem_l {a b z : Addr} (h : z ∈ [a]) : z ∈ [a, b] := List.mem_singleton.mp h ▸ .head _
theorem nin1 {a b : Addr} (h : a ≠ b) : a ∉ [b] := fun m => h (List.mem_singleton.mp m)
theorem at_mono {ρ tl : List Addr} {k : Nat} {a : Addr} (h : ρ[k]? = some a) : (ρ ++ tl)[k]? = some a := by
  rw [List.getElem?_append_left (List.getElem?_eq_some_iff.mp h).1]; exact h
theorem VRel.mono {θ : Th} {ρ tl : List Addr} {a : AV} {x : Value} (h : VRel θ ρ a x) : VRel θ (ρ ++ tl) a x := by
  cases a with
  | ref k => exact h.elim fun a h => ⟨a, at_mono h.1, h.2⟩
  | _ => exact h
theorem ORel.mono {θ : Th} {ρ tl : List Addr} {a : AO} {x : Obj} (h : ORel θ ρ a x) : ORel θ (ρ ++ tl) a x := by
  cases a with
  | list _ => obtain ⟨vs, n, e, h⟩ := h; exact ⟨vs, n, e, h.imp fun _ _ => VRel.mono⟩
  | tup _ => obtain ⟨vs, n, e, h⟩ := h; exact ⟨vs, n, e, h.imp fun _ _ => VRel.mono⟩
  | dct _ => obtain ⟨ds, n, e, h⟩ := h; exact ⟨ds, n, e, h.imp fun _ _ ⟨x, t, a, b, c⟩ => ⟨x, t, a, b, c.mono⟩⟩
  | page _ => obtain ⟨a, h, e⟩ := h; exact ⟨a, at_mono h, e⟩
  | acc _ _ => obtain ⟨a, vs, n, h, e, q⟩ := h; exact ⟨a, vs, n, at_mono h, e, q.imp fun _ _ => VRel.mono⟩
  | cell v =>
    obtain ⟨w, e, h⟩ := h
    cases v with
    | none => exact ⟨w, e, trivial⟩
    | some _ => obtain ⟨x, e', h⟩ := h; exact ⟨w, e, x, e', h.mono⟩

/-- what is fixed over the whole run: the heap that was found, without the code tables that grow -/
structure Cx where
  prog : Program
  w : World
  h₁ : Heap
  tabs : List Addr
  mg : Str → Option Value
  mb : Str → Option Value
  K : Frag
noncomputable def Cx.h₀ (cx : Cx) : Heap := hideAll cx.h₁ cx.tabs
theorem Cx.h₀_size (cx : Cx) : cx.h₀.objs.size = cx.h₁.objs.size := hideAll_size _ _

/-- what is asked of the old objects: a code table may have grown by three and three -/
structure OldT (cx : Cx) (h : Heap) : Prop where
  k : OldK cx.h₁ h
  t : ∀ P ∈ cx.tabs, P < cx.h₁.objs.size ∧ ∃ ps, h.get? P = some { cls := .none, data := .fields ps } ∧ TriplesOk ps.toList
theorem OldT.step_keeps {cx : Cx} {h h' : Heap} (O : OldT cx h) (hk : ∀ b o, h.get? b = some o → h'.get? b = some o) : OldT cx h' :=
  ⟨O.k.step_keeps hk, fun P m => let ⟨l, ps, e, t⟩ := O.t P m; ⟨l, ps, hk _ _ e, t⟩⟩
theorem OldT.step_same {cx : Cx} {h h' : Heap} (O : OldT cx h) {a : Addr} (ha : cx.h₁.objs.size ≤ a) (hs : Heap.SameBut a h h') : OldT cx h' :=
  ⟨O.k.step_same ha hs, fun P m => let ⟨l, ps, e, t⟩ := O.t P m; ⟨l, ps, (hs.2 P (Nat.ne_of_lt (Nat.lt_of_lt_of_le l ha))).trans e, t⟩⟩

/-- the state: the addresses of the abstract heap's objects, and what stands there -/
structure St (cx : Cx) (θ : Th) (ρ : List Addr) (H : AH) (s : Shared) : Prop where
  len : ρ.length = H.n
  nodup : ρ.Nodup
  lt : ∀ a ∈ ρ, a < s.heap.objs.size
  old : ∀ a ∈ ρ, cx.h₁.objs.size ≤ a
  small : H.n + 1 < 2 ^ 40
  obj : ∀ i ao, H.get i = some ao → ∃ a o, ρ[i]? = some a ∧ s.heap.get? a = some o ∧ ORel θ ρ ao o
  base : ∀ b o, cx.h₀.get? b = some o → s.heap.get? b = some o
  size : cx.h₁.objs.size ≤ s.heap.objs.size
  oldk : OldT cx s.heap
  bare : AllBare s.gens
/-- what a run leaves as it was: all that is not among the addresses, nor a table -/
structure Keep (cx : Cx) (ρ : List Addr) (s s' : Shared) : Prop where
  heap : ∀ b o, s.heap.get? b = some o → b ∉ ρ → b ∉ cx.tabs → s'.heap.get? b = some o
  os : s'.os = s.os
  grow : s.heap.objs.size ≤ s'.heap.objs.size
/-- a link of two states -/
structure Lk (cx : Cx) (X ρ : List Addr) (s : Shared) (ρ' : List Addr) (s' : Shared) : Prop where
  tl : ∃ tl, ρ' = ρ ++ tl ∧ ∀ b ∈ tl, s.heap.objs.size ≤ b
  keep : Keep cx (X ++ ρ) s s'

section
variable {cx : Cx} {θ : Th} {X ρ ρ' ρ'' tl tl' : List Addr} {H : AH} {s s' s'' : Shared}
theorem Keep.refl : Keep cx ρ s s := ⟨fun _ _ e _ _ => e, rfl, Nat.le_refl _⟩
theorem Keep.of_all (h : ∀ b o, s.heap.get? b = some o → s'.heap.get? b = some o) (hos : s'.os = s.os) (hg : s.heap.objs.size ≤ s'.heap.objs.size) : Keep cx ρ s s' := ⟨fun b o e _ _ => h b o e, hos, hg⟩
theorem Lk.refl : Lk cx X ρ s ρ s := ⟨⟨[], (List.append_nil _).symm, fun _ m => nomatch m⟩, Keep.refl⟩
theorem Lk.trans (a : Lk cx X ρ s ρ' s') (b : Lk cx X ρ' s' ρ'' s'') : Lk cx X ρ s ρ'' s'' := by
  obtain ⟨⟨t, rfl, ht⟩, ka⟩ := a
  obtain ⟨⟨t', rfl, ht'⟩, kb⟩ := b
  refine ⟨⟨t ++ t', List.append_assoc .., fun x m => (List.mem_append.mp m).elim (ht x) fun m => Nat.le_trans ka.grow (ht' x m)⟩, ?_, kb.os.trans ka.os, Nat.le_trans ka.grow kb.grow⟩
  intro x o e hx hn
  refine kb.heap x o (ka.heap x o e hx hn) (fun m => ?_) hn
  rcases List.mem_append.mp m with m | m
  · exact hx (List.mem_append_left _ m)
  · rcases List.mem_append.mp m with m | m
    · exact hx (List.mem_append_right _ m)
    · exact Nat.lt_irrefl _ (Nat.lt_of_lt_of_le (Heap.lt_size e) (ht x m))
theorem Lk.wide {Y : List Addr} (a : Lk cx X ρ s ρ' s') (h : ∀ x ∈ X, x ∈ Y) : Lk cx Y ρ s ρ' s' :=
  ⟨a.tl, fun b o e n => a.keep.heap b o e fun m => n ((List.mem_append.mp m).elim (fun m => List.mem_append_left _ (h _ m)) fun m => List.mem_append_right _ m), a.keep.os, a.keep.grow⟩
theorem Lk.wide0 {Y : List Addr} (a : Lk cx [] ρ s ρ' s') : Lk cx Y ρ s ρ' s' := a.wide fun _ m => nomatch m
/-- what was made on the way need not be named -/
theorem Lk.less (a : Lk cx X ρ s ρ' s') {Y : List Addr} (h : ∀ x ∈ X, x ∈ Y ∨ s.heap.objs.size ≤ x) : Lk cx Y ρ s ρ' s' :=
  ⟨a.tl, fun b o e n => a.keep.heap b o e fun m => (List.mem_append.mp m).elim (fun m => (h _ m).elim (fun m => n (List.mem_append_left _ m)) fun q => Nat.lt_irrefl _ (Nat.lt_of_lt_of_le (Heap.lt_size e) q)) fun m => n (List.mem_append_right _ m), a.keep.os, a.keep.grow⟩
theorem Lk.at {k : Nat} {a : Addr} (l : Lk cx X ρ s ρ' s') (h : ρ[k]? = some a) : ρ'[k]? = some a := by
  obtain ⟨⟨t, rfl, _⟩, _⟩ := l
  exact at_mono h
theorem Lk.vrel (l : Lk cx X ρ s ρ' s') {a : AV} {x : Value} (h : VRel θ ρ a x) : VRel θ ρ' a x := by
  obtain ⟨⟨t, rfl, _⟩, _⟩ := l
  exact h.mono
theorem Lk.nin (l : Lk cx X ρ s ρ' s') {a : Addr} (h : a ∉ ρ) (hl : a < s.heap.objs.size) : a ∉ ρ' := by
  obtain ⟨⟨t, rfl, ht⟩, _⟩ := l
  exact fun m => (List.mem_append.mp m).elim h fun m => Nat.lt_irrefl _ (Nat.lt_of_lt_of_le hl (ht a m))
/-- the same addresses -/
theorem Lk.of_all (h : ∀ b o, s.heap.get? b = some o → s'.heap.get? b = some o) (hos : s'.os = s.os) (hg : s.heap.objs.size ≤ s'.heap.objs.size) : Lk cx X ρ s ρ s' := ⟨⟨[], (List.append_nil _).symm, fun _ m => nomatch m⟩, Keep.of_all h hos hg⟩
theorem Lk.same (h : s'.heap = s.heap) (ho : s'.os = s.os) : Lk cx X ρ s ρ s' := .of_all (fun b o e => by rw [h]; exact e) ho (by rw [h]; exact Nat.le_refl _)

theorem St.frame (S : St cx θ ρ H s) (h : ∀ b o, s.heap.get? b = some o → s'.heap.get? b = some o) (hb : AllBare s'.gens) (hz : s.heap.objs.size ≤ s'.heap.objs.size) : St cx θ ρ H s' where
  len := S.len
  nodup := S.nodup
  lt := fun a m => Nat.lt_of_lt_of_le (S.lt a m) hz
  old := S.old
  small := S.small
  obj := fun i ao e => by
    obtain ⟨a, o, ha, ho, q⟩ := S.obj i ao e
    exact ⟨a, o, ha, h a o ho, q⟩
  base := fun b o e => h b o (S.base b o e)
  size := Nat.le_trans S.size hz
  oldk := S.oldk.step_keeps h
  bare := hb
/-- a state that differs in its tokens alone -/
theorem St.same (S : St cx θ ρ H s) (h : s'.heap = s.heap) (hg : s'.gens = s.gens) : St cx θ ρ H s' :=
  S.frame (fun b o e => by rw [h]; exact e) (by rw [hg]; exact S.bare) (by rw [h]; exact Nat.le_refl _)
theorem St.of_lk (S : St cx θ ρ H s) (hl : ∀ b o, s.heap.get? b = some o → s'.heap.get? b = some o) (hb : AllBare s'.gens) (hz : s.heap.objs.size ≤ s'.heap.objs.size) : St cx θ ρ H s' := S.frame hl hb hz
theorem St.getO (S : St cx θ ρ H s) {k : Nat} {a : Addr} (ha : ρ[k]? = some a) {ao : AO} (h : H.get k = some ao) : ∃ o, s.heap.get? a = some o ∧ ORel θ ρ ao o := by
  obtain ⟨a', o, ha', ho, q⟩ := S.obj k ao h
  rw [ha] at ha'
  cases ha'
  exact ⟨o, ho, q⟩
/-- one cell of the heap changed that is no address of the abstract heap -/
theorem St.aside (S : St cx θ ρ H s) {L : Addr} (hL : L ∉ ρ) (hL' : cx.h₁.objs.size ≤ L) (h : Heap.SameBut L s.heap s'.heap) (hg : s'.gens = s.gens) : St cx θ ρ H s' where
  len := S.len
  nodup := S.nodup
  lt := fun a m => by rw [h.1]; exact S.lt a m
  old := S.old
  small := S.small
  obj := fun i ao e => by
    obtain ⟨a, o, ha, ho, q⟩ := S.obj i ao e
    exact ⟨a, o, ha, (h.2 a fun z => hL (z ▸ List.mem_of_getElem? ha)).trans ho, q⟩
  base := fun b o e => (h.2 b fun z => by have := Heap.lt_size e; rw [cx.h₀_size, z] at this; exact Nat.lt_irrefl _ (Nat.lt_of_lt_of_le this hL')).trans (S.base b o e)
  size := by rw [h.1]; exact S.size
  oldk := S.oldk.step_same hL' h
  bare := by rw [hg]; exact S.bare

theorem AH.get_push {H : AH} (hn : H.n + 1 < 2 ^ 40) (o : AO) (i : Nat) : (H.push o).get i = if i = H.n then some o else H.get i := Tr.get_put o 40 H.t H.n i hn
theorem AH.get_set {H : AH} {k : Nat} (hn : k + 1 < 2 ^ 40) (o : AO) (i : Nat) : (H.set k o).get i = if i = k then some o else H.get i := Tr.get_put o 40 H.t k i hn

/-- a new object -/
theorem St.push (S : St cx θ ρ H s) {o : Obj} {ao : AO} (hn : H.n + 2 < 2 ^ 40) (hf : o.isFreed = false) (hr : ORel θ (ρ ++ [s.heap.objs.size]) ao o) :
    St cx θ (ρ ++ [s.heap.objs.size]) (H.push ao) { s with heap := s.heap.push o } where
  len := by rw [List.length_append, S.len]; rfl
  nodup := List.nodup_append.mpr ⟨S.nodup, (List.nodup_cons.mpr ⟨(fun m => nomatch m), List.nodup_nil⟩), fun a ha b hb => by
    rcases List.mem_cons.mp hb with rfl | hb
    · exact Nat.ne_of_lt (S.lt a ha)
    · cases hb⟩
  lt := fun a m => by
    show a < (s.heap.push o).objs.size
    rw [Heap.size_push]
    rcases List.mem_append.mp m with m | m
    · exact Nat.lt_succ_of_lt (S.lt a m)
    · rcases List.mem_cons.mp m with rfl | m
      · exact Nat.lt_succ_self _
      · cases m
  old := fun a m => by
    rcases List.mem_append.mp m with m | m
    · exact S.old a m
    · rcases List.mem_cons.mp m with rfl | m
      · exact S.size
      · cases m
  small := hn
  obj := fun i a' e => by
    rw [AH.get_push S.small] at e
    split at e
    · rename_i hi
      cases e
      subst hi
      refine ⟨s.heap.objs.size, o, ?_, Heap.get?_push_size _ hf, hr⟩
      rw [← S.len]; simp
    · obtain ⟨a, o', ha, ho, q⟩ := S.obj i a' e
      exact ⟨a, o', at_mono ha, Heap.get?_push_of_some _ ho, q.mono⟩
  base := fun b o' e => Heap.get?_push_of_some _ (S.base b o' e)
  size := Nat.le_trans S.size (by show _ ≤ (s.heap.push o).objs.size; rw [Heap.size_push]; exact Nat.le_succ _)
  oldk := S.oldk.step_keeps fun _ _ e => Heap.get?_push_of_some _ e
  bare := S.bare
theorem Lk.push {o : Obj} : Lk cx X ρ s (ρ ++ [s.heap.objs.size]) { s with heap := s.heap.push o } :=
  ⟨⟨_, rfl, fun b m => by rcases List.mem_cons.mp m with rfl | m; exact Nat.le_refl _; cases m⟩, Keep.of_all (fun _ _ e => Heap.get?_push_of_some _ e) rfl (by show _ ≤ (s.heap.push o).objs.size; rw [Heap.size_push]; exact Nat.le_succ _)⟩
theorem nodup_at {ρ : List Addr} (h : ρ.Nodup) {i j : Nat} {a : Addr} (hi : ρ[i]? = some a) (hj : ρ[j]? = some a) : i = j :=
  (List.getElem?_inj (List.getElem?_eq_some_iff.mp hi).1 h).mp (hi.trans hj.symm)
theorem St.lt40 (S : St cx θ ρ H s) {k : Nat} {a : Addr} (ha : ρ[k]? = some a) : k + 1 < 2 ^ 40 := Nat.lt_trans (by have := (List.getElem?_eq_some_iff.mp ha).1; rw [S.len] at this; omega) S.small
/-- an object changed -/
theorem St.put (S : St cx θ ρ H s) {k : Nat} {a : Addr} {o' : Obj} {ao : AO} {h' : Heap} (ha : ρ[k]? = some a) (hs : Heap.SameBut a s.heap h') (ho : h'.get? a = some o') (hr : ORel θ ρ ao o') :
    St cx θ ρ (H.set k ao) { s with heap := h' } ∧ Lk cx X ρ s ρ { s with heap := h' } := by
  have hk := S.lt40 ha
  have ham : a ∈ ρ := List.mem_of_getElem? ha
  have hle := S.old a ham
  refine ⟨⟨S.len, S.nodup, fun b m => by show b < h'.objs.size; rw [hs.1]; exact S.lt b m, S.old, S.small, fun i a' e => ?_, fun b o' eb => ?_, by show _ ≤ h'.objs.size; rw [hs.1]; exact S.size, S.oldk.step_same hle hs, S.bare⟩,
    ⟨⟨[], (List.append_nil _).symm, fun _ m => nomatch m⟩, fun b o' eb n _ => (hs.2 b fun z => n (List.mem_append_right _ (z ▸ ham))).trans eb, rfl, by show _ ≤ h'.objs.size; rw [hs.1]; exact Nat.le_refl _⟩⟩
  · rw [AH.get_set hk] at e
    split at e
    · rename_i hi
      cases e
      subst hi
      exact ⟨a, o', ha, ho, hr⟩
    · rename_i hi
      obtain ⟨b, o'', hb, ho'', q⟩ := S.obj i a' e
      exact ⟨b, o'', hb, (hs.2 b fun z => hi (nodup_at S.nodup (z ▸ hb) ha)).trans ho'', q⟩
  · exact (hs.2 b fun z => by have := Heap.lt_size eb; rw [cx.h₀_size, z] at this; exact Nat.lt_irrefl _ (Nat.lt_of_lt_of_le this hle)).trans (S.base b o' eb)
end

/-- what a run gives: a state behind it, linked to the one before -/
noncomputable def Aft (cx : Cx) (θ : Th) (X ρ : List Addr) (s : Shared) (H' : AH) (P : List Addr → Prop) (s' : Shared) : Prop := ∃ ρ', Lk cx X ρ s ρ' s' ∧ St cx θ ρ' H' s' ∧ P ρ'
noncomputable abbrev Tri (cx : Cx) (A : Around) {α : Type} (t : Sem α) (s : Shared) (P : α → Shared → Prop) : Prop := wpAny (model cx.prog cx.w) A t P (fun _ _ => False) s
noncomputable abbrev Res (cx : Cx) (θ : Th) (ρ : List Addr) (s : Shared) (H' : AH) (av : AV) (x : Value) (s' : Shared) : Prop := Aft cx θ [] ρ s H' (fun ρ' => VRel θ ρ' av x) s'
section
variable {cx : Cx} {θ : Th} {X ρ ρ' : List Addr} {H H' : AH} {s s' s'' : Shared} {A : Around}
theorem Tri.mono {α : Type} {t : Sem α} {P P' : α → Shared → Prop} (h : Tri cx A t s P) (f : ∀ a s', P a s' → P' a s') : Tri cx A t s P' := wpAny_mono h f fun _ _ e => e
theorem Aft.same {P : List Addr → Prop} (S : St cx θ ρ H s) (h : s'.heap = s.heap) (hg : s'.gens = s.gens) (ho : s'.os = s.os) (p : P ρ) : Aft cx θ X ρ s H P s' := ⟨ρ, .same h ho, S.same h hg, p⟩
theorem Aft.here {P : List Addr → Prop} (S : St cx θ ρ H s) (p : P ρ) : Aft cx θ X ρ s H P s := ⟨ρ, .refl, S, p⟩
theorem Aft.step {P : List Addr → Prop} (l : Lk cx X ρ s ρ' s') (h : Aft cx θ X ρ' s' H' P s'') : Aft cx θ X ρ s H' P s'' := let ⟨r, l', S, p⟩ := h; ⟨r, l.trans l', S, p⟩
theorem Aft.imp {P P' : List Addr → Prop} (h : Aft cx θ X ρ s H' P s') (f : ∀ ρ', P ρ' → P' ρ') : Aft cx θ X ρ s H' P' s' := let ⟨r, l, S, p⟩ := h; ⟨r, l, S, f r p⟩
theorem Aft.wide0 {P : List Addr → Prop} (h : Aft cx θ [] ρ s H' P s') : Aft cx θ X ρ s H' P s' := let ⟨r, l, S, p⟩ := h; ⟨r, l.wide0, S, p⟩
end
end Mine
namespace Mine
open PySem PySem.W PyProof.Rows PySem.Calls

section
variable {cx : Cx} {θ : Th} {ρ : List Addr} {H H' : AH} {s s' : Shared} {A : Around}
/-! numbers -/
theorem add_1 {x b y i j : Int} (h : i = x + b) (k : j = y) : i + j = x + y + b := by rw [h, k]; exact Int.add_right_comm ..
theorem add_2 {x b y i j : Int} (h : i = x) (k : j = y + b) : i + j = x + y + b := by rw [h, k]; exact (Int.add_assoc ..).symm
theorem add_3 {x y i j : Int} (h : i = x) (k : j = y) : i + j = x + y := by rw [h, k]
theorem sub_1 {x b y i j : Int} (h : i = x + b) (k : j = y) : i - j = x - y + b := by rw [h, k]; omega
theorem sub_2 {x b y i j : Int} (h : i = x + b) (k : j = y + b) : i - j = x - y := by rw [h, k]; exact Int.add_sub_add_right ..
theorem aadd_ok {a b c : AI} {i j : Int} (e : aadd a b = some c) (ha : AIs θ a i) (hb : AIs θ b j) : AIs θ c (i + j) := by
  cases a with
  | lit x =>
    cases b with
    | lit y => exact Option.some.inj e ▸ add_3 ha hb
    | off y => exact Option.some.inj e ▸ add_2 ha hb
    | hof y => exact Option.some.inj e ▸ add_2 ha hb
    | sym q => exact Option.some.inj e ▸ add_3 ha hb
    | _ => exact no_el e
  | off x =>
    cases b with
    | lit y => exact Option.some.inj e ▸ add_1 ha hb
    | _ => exact no_el e
  | hof x =>
    cases b with
    | lit y => exact Option.some.inj e ▸ add_1 ha hb
    | _ => exact no_el e
  | sym p =>
    cases b with
    | lit y => exact Option.some.inj e ▸ add_3 ha hb
    | sym q => exact Option.some.inj e ▸ add_3 ha hb
    | _ => exact no_el e
  | _ => exact no_el e
theorem asub_ok {a b c : AI} {i j : Int} (e : asub a b = some c) (ha : AIs θ a i) (hb : AIs θ b j) : AIs θ c (i - j) := by
  cases a with
  | lit x =>
    cases b with
    | lit y => exact Option.some.inj e ▸ (by show i - j = x - y; rw [show i = x from ha, show j = y from hb])
    | _ => exact no_el e
  | off x =>
    cases b with
    | lit y => exact Option.some.inj e ▸ sub_1 ha hb
    | off y => exact Option.some.inj e ▸ sub_2 ha hb
    | _ => exact no_el e
  | hof x =>
    cases b with
    | lit y => exact Option.some.inj e ▸ sub_1 ha hb
    | hof y => exact Option.some.inj e ▸ sub_2 ha hb
    | _ => exact no_el e
  | sym p =>
    cases b with
    | lit y => exact Option.some.inj e ▸ add_3 (j := -j) ha (congrArg _ hb)
    | _ => exact no_el e
  | _ => exact no_el e
theorem cond_some {α : Type} {c : Bool} {x y : α} (h : cond c (some x) none = some y) : c = true ∧ x = y := by
  cases c with
  | true => exact ⟨rfl, Option.some.inj h⟩
  | false => cases h
theorem litBits_le : ∀ i : Int, Builtin.Int.intBits i ≤ litBits i
  | .ofNat n => by
    unfold Builtin.Int.intBits litBits
    split
    · exact Nat.zero_le _
    · exact Nat.le_refl _
  | .negSucc n => by
    unfold Builtin.Int.intBits litBits
    rw [if_neg (by simp)]
    exact Nat.le_refl _
theorem nmax_eq (a b : Nat) : nmax a b = max a b := by
  unfold nmax
  cases h : Nat.ble a b with
  | true => show b = max a b; exact (Nat.max_eq_right (ble_t h)).symm
  | false => show a = max a b; exact (Nat.max_eq_left (Nat.le_of_lt (Nat.lt_of_not_le fun q => by rw [Nat.ble_eq_true_of_le q] at h; cases h))).symm
theorem bits_le (O : θ.Ok) : ∀ p : PE, Builtin.Int.intBits (p.eval θ.v) ≤ p.bits
  | .v n => O.bits n
  | .lit i => litBits_le i
  | .add a b => by
    have := intBits_add_le (bits_le O a) (bits_le O b)
    simp only [PE.bits, PE.eval, nmax_eq]; exact this
  | .mul a b => intBits_mul_le (bits_le O a) (bits_le O b)
theorem mulS_ok {p q : PE} {c : AI} (O : θ.Ok) (e : mulS p q = some c) : AIs θ c (p.eval θ.v * q.eval θ.v) ∧ IntMulOk (p.eval θ.v) (q.eval θ.v) := by
  obtain ⟨h, rfl⟩ := cond_some e
  exact ⟨rfl, IntMulOk.of_le (bits_le O p) (bits_le O q) (Nat.le_of_ble_eq_true h)⟩
theorem amul_ok {a b c : AI} {i j : Int} (O : θ.Ok) (e : amul a b = some c) (ha : AIs θ a i) (hb : AIs θ b j) : AIs θ c (i * j) ∧ IntMulOk i j := by
  cases a with
  | lit x =>
    obtain rfl : i = x := ha
    cases b with
    | lit y =>
      obtain rfl : j = y := hb
      exact cs1e (Q := fun c => AIs θ c (i * j) ∧ IntMulOk i j) e fun h => ⟨rfl, IntMulOk.of_le (litBits_le _) (litBits_le _) (ble_t h)⟩
    | sym q =>
      obtain rfl : j = q.eval θ.v := hb
      exact mulS_ok (p := .lit i) O e
    | _ => exact no_el e
  | sym p =>
    obtain rfl : i = p.eval θ.v := ha
    cases b with
    | lit y =>
      obtain rfl : j = y := hb
      exact mulS_ok (q := .lit j) O e
    | sym q =>
      obtain rfl : j = q.eval θ.v := hb
      exact mulS_ok O e
    | _ => exact no_el e
  | _ => exact no_el e

theorem div_cyc {Q : Int} {r m d : Nat} (hm : 0 < m) (hd : 0 < d) (h : Q % ((m * d : Nat) : Int) = r) : (Q / (d : Int)) % (m : Int) = ((r / d : Nat) : Int) := by
  have hd' : (d : Int) ≠ 0 := Int.natCast_ne_zero.mpr (Nat.ne_of_gt hd)
  have hr : r < m * d := Int.ofNat_lt.mp (h ▸ Int.emod_lt_of_pos Q (Int.natCast_pos.mpr (Nat.mul_pos hm hd)))
  rw [← Int.emod_add_mul_ediv Q ((m * d : Nat) : Int), h, Int.natCast_mul, Int.mul_comm (m : Int) d, Int.mul_assoc, Int.add_mul_ediv_left _ _ hd', Int.add_mul_emod_self_left, ← Int.natCast_ediv, ← Int.natCast_emod, Nat.mod_eq_of_lt (Nat.div_lt_of_lt_mul (Nat.mul_comm m d ▸ hr))]
theorem rest_ok (O : θ.Ok) {n m d : Nat} (hm : 0 < m) (hd : 0 < d) (hmd : m * d = 162) (hn : n = 4 * d) : AIs θ (.cyc m (θ.r / d)) ((θ.c.fdiv 11).fdiv (n : Int)) := by
  have r0 := O.r
  refine ⟨hm, ?_⟩
  rw [Int.fdiv_eq_ediv_of_nonneg _ (by decide), Int.fmod_eq_emod_of_nonneg _ (by decide)] at r0
  rw [Int.fdiv_eq_ediv_of_nonneg _ (Int.natCast_nonneg n), hn, Int.natCast_mul, ← Int.ediv_ediv_of_nonneg (by decide)]
  exact div_cyc hm hd (by rw [hmd]; exact r0)
theorem rest_done {P : Prop} {n k : Nat} {a c : AI} {x : Option AI} (e : cond (Nat.beq n k) (some a) x = some c) (h : n = k → a = c → P) (h' : x = some c → P) : P := by
  cases hk : Nat.beq n k with
  | true => rw [hk] at e; exact h (beq_t hk) (Option.some.inj e)
  | false => rw [hk] at e; exact h' e
theorem noPy {n : Nat} {R : Int} (h : n < 1000) (h0 : 0 < n) : ((n : Int)) ≠ 0 ∧ Builtin.divisionGoesByPylong R (n : Int) = false := ⟨Int.natCast_ne_zero.mpr (Nat.ne_of_gt h0), PyProof.noPylong_small (by rw [Int.natAbs_natCast]; exact Nat.lt_trans h (by decide))⟩
theorem afdiv_ok {a b c : AI} {i j : Int} (O : θ.Ok) (e : afdiv a b = some c) (ha : AIs θ a i) (hb : AIs θ b j) : AIs θ c (i.fdiv j) ∧ j ≠ 0 ∧ Builtin.divisionGoesByPylong i j = false := by
  cases a with
  | c10 r =>
    cases b with
    | lit k =>
      obtain rfl : j = k := hb
      cases j with
      | negSucc _ => exact no_el e
      | ofNat n =>
        obtain ⟨rfl, hr⟩ := ha
        exact cs1e (Q := fun c => AIs θ c (Int.fdiv θ.c (Int.ofNat n)) ∧ _) e fun h => by
          obtain rfl := beq_t h
          exact ⟨⟨rfl, hr⟩, noPy (by decide) (by decide)⟩
    | _ => exact no_el e
  | rest r =>
    cases b with
    | lit k =>
      obtain rfl : j = k := hb
      cases j with
      | negSucc _ => exact no_el e
      | ofNat n =>
        obtain ⟨rfl, rfl⟩ := ha
        refine rest_done e (fun h z => ?_) fun e => rest_done e (fun h z => ?_) fun e => rest_done e (fun h z => ?_) fun e => rest_done e (fun h z => ?_) fun e => no_el e
        · subst h; exact z ▸ ⟨(Nat.div_one θ.r) ▸ rest_ok O (d := 1) (by decide) (by decide) rfl rfl, noPy (by decide) (by decide)⟩
        · subst h; exact z ▸ ⟨rest_ok O (by decide) (by decide) rfl rfl, noPy (by decide) (by decide)⟩
        · subst h; exact z ▸ ⟨rest_ok O (by decide) (by decide) rfl rfl, noPy (by decide) (by decide)⟩
        · subst h; exact z ▸ ⟨rest_ok O (by decide) (by decide) rfl rfl, noPy (by decide) (by decide)⟩
    | _ => exact no_el e
  | _ => exact no_el e

theorem amod_ok {a b c : AI} {i j : Int} (O : θ.Ok) (e : amod a b = some c) (ha : AIs θ a i) (hb : AIs θ b j) : AIs θ c (i.fmod j) ∧ j ≠ 0 := by
  cases b with
  | lit k =>
    obtain rfl : j = k := hb
    cases j with
    | negSucc _ => cases a <;> exact no_el e
    | ofNat n =>
      cases a with
      | c10 r =>
        obtain ⟨rfl, hr⟩ := ha
        exact cs1e (Q := fun c => AIs θ c (Int.fmod θ.c (Int.ofNat n)) ∧ _) e fun h => by
          obtain rfl := beq_t h
          exact ⟨O.c.trans (Int.zero_add _).symm, by decide⟩
      | rest r =>
        obtain ⟨rfl, hr⟩ := ha
        exact cs1e (Q := fun c => AIs θ c (Int.fmod _ (Int.ofNat n)) ∧ _) e fun h => by
          obtain rfl := beq_t h
          exact ⟨O.rest4.trans (Int.zero_add _).symm, by decide⟩
      | cyc m r =>
        obtain ⟨hm, hr⟩ := ha
        exact cs1e (Q := fun c => AIs θ c (Int.fmod i (Int.ofNat n)) ∧ _) e fun h => by
          obtain ⟨h0, h1⟩ := and_t h
          have h0 := Nat.ne_of_beq_eq_false (not_t h0)
          refine ⟨?_, fun z => h0 (Int.ofNat.inj z)⟩
          show i.fmod (n : Int) = ((r % n : Nat) : Int)
          rw [Int.fmod_eq_emod_of_nonneg _ (Int.natCast_nonneg n)]
          obtain ⟨q, rfl⟩ : n ∣ m := Nat.dvd_of_mod_eq_zero (beq_t h1)
          have h2 : i % (((n * q : Nat)) : Int) = r := hr
          rw [Int.natCast_emod, ← h2, Int.natCast_mul, Int.emod_emod_of_dvd _ ⟨(q : Int), rfl⟩]
      | _ => exact no_el e
  | _ => cases a <;> exact no_el e

theorem oi_some {o : Option AI} {v : AV} (e : oi o = some v) : ∃ c, o = some c ∧ v = .int c := by
  cases o with
  | none => cases e
  | some c => cases e; exact ⟨c, rfl, rfl⟩
theorem intV_some {g : AI → AI → Option AI} {a b v : AV} (e : intV g a b = some v) : ∃ x y c, a = .int x ∧ b = .int y ∧ g x y = some c ∧ v = .int c := by
  cases a with
  | int x =>
    cases b with
    | int y => exact (oi_some e).elim fun c h => ⟨_, _, c, rfl, rfl, h.1, h.2⟩
    | _ => exact no_el e
  | _ => exact no_el e
theorem tx_append (x y : List Nat) : θ.tx (x ++ y) = θ.tx x ++ θ.tx y := by
  show (⟨_⟩ : Str) = ⟨(_ : Array Nat) ++ _⟩
  rw [List.map_append]
  exact congrArg Str.mk (List.append_toArray ..).symm
theorem tx_len (x : List Nat) : (θ.tx x).length = x.length := by
  exact (List.size_toArray).trans (List.length_map _)
theorem small_line {n : Nat} (h : Nat.ble n 4096 = true) : n ≤ sizeLine := Nat.le_trans (Nat.le_of_ble_eq_true h) (by decide)

theorem lt4 {n : Nat} (h : n < 4) : n = 0 ∨ n = 1 ∨ n = 2 ∨ n = 3 := by
  match n, h with
  | 0, _ => exact .inl rfl
  | 1, _ => exact .inr (.inl rfl)
  | 2, _ => exact .inr (.inr (.inl rfl))
  | 3, _ => exact .inr (.inr (.inr rfl))
theorem tabs_mul (O : θ.Ok) {t u : Tok} (S : St cx θ ρ H s) : Tri cx A (binaryOp .Mult (.str ⟨#[9]⟩ t) (.int θ.hd u)) s (Res cx θ ρ s H .tabs) := by
  rcases lt4 O.hd with z | z | z | z <;> rw [z]
  · exact SB.mul (by unfold MulOk; decide) fun t' k => .same S rfl rfl rfl ⟨t', by rw [z]; rfl⟩
  · exact SB.mul (by unfold MulOk; decide) fun t' k => .same S rfl rfl rfl ⟨t', by rw [z]; rfl⟩
  · exact SB.mul (by unfold MulOk; decide) fun t' k => .same S rfl rfl rfl ⟨t', by rw [z]; rfl⟩
  · exact SB.mul (by unfold MulOk; decide) fun t' k => .same S rfl rfl rfl ⟨t', by rw [z]; rfl⟩
theorem binop_int {g : AI → AI → Option AI} {P : Value → Value → Prop} {a b v : AV} {x y : Value} (e : intV g a b = some v) (ha : VRel θ ρ a x) (hb : VRel θ ρ b y)
    (h : ∀ p q c i j t u, g p q = some c → AIs θ p i → AIs θ q j → v = .int c → P (.int i t) (.int j u)) : P x y := by
  obtain ⟨p, q, c, rfl, rfl, k, hv⟩ := intV_some e
  obtain ⟨i, t, rfl, ha⟩ := ha
  obtain ⟨j, u, rfl, hb⟩ := hb
  exact h p q c i j t u k ha hb hv
theorem binop_ok (O : θ.Ok) (S : St cx θ ρ H s) {op : Operator} {bop : BOp} (ho : bopOf op = some bop) {a b v : AV} {x y : Value} (e : binop bop a b = some v) (ha : VRel θ ρ a x) (hb : VRel θ ρ b y) :
    Tri cx A (binaryOp op x y) s (Res cx θ ρ s H v) := by
  have fin : ∀ {s' : Shared} {c : AI} {i : Int} {t : Tok}, s'.heap = s.heap → s'.gens = s.gens → s'.os = s.os → AIs θ c i → v = .int c → Res cx θ ρ s H v (.int i t) s' := fun h1 h2 h3 h hv => .same S h1 h2 h3 (hv ▸ ⟨_, _, rfl, h⟩)
  have byInts : ∀ {g : AI → AI → Option AI} {P : Value → Value → Prop}, intV g a b = some v → (∀ p q c i j t u, g p q = some c → AIs θ p i → AIs θ q j → v = .int c → P (.int i t) (.int j u)) → P x y := fun e h => binop_int e ha hb h
  cases op with
  | Add =>
    obtain rfl := Option.some.inj ho
    cases a with
    | int p => exact byInts (g := aadd) (P := fun x y => Tri cx A (binaryOp .Add x y) s _) (by cases b <;> exact e) fun p q c i j t u k hp hq hv => add_int (fin rfl rfl rfl (aadd_ok k hp hq) hv)
    | str p =>
      cases b with
      | str q =>
        obtain ⟨h, rfl⟩ := cond_some e
        obtain ⟨t, rfl⟩ := ha
        obtain ⟨u, rfl⟩ := hb
        exact add_str (fun t' tk => .same S rfl rfl rfl ⟨t', by rw [tx_append]⟩) (by rw [tx_len, tx_len]; exact small_line h)
      | _ => exact no_el e
    | _ => exact no_el e
  | Sub =>
    obtain rfl := Option.some.inj ho
    exact byInts (g := asub) (P := fun x y => Tri cx A (binaryOp .Sub x y) s _) e fun p q c i j t u k hp hq hv => sub_int (fin rfl rfl rfl (asub_ok k hp hq) hv)
  | Mult =>
    obtain rfl := Option.some.inj ho
    cases a with
    | int p => exact byInts (g := amul) (P := fun x y => Tri cx A (binaryOp .Mult x y) s _) (by cases b <;> exact e) fun p q c i j t u k hp hq hv => mul_int (fin rfl rfl rfl (amul_ok O k hp hq).1 hv) (amul_ok O k hp hq).2
    | str l =>
      cases b with
      | int k =>
        cases k with
        | hof i =>
          obtain ⟨h, rfl⟩ := cond_some e
          obtain ⟨h1, h2⟩ := and_t h
          obtain rfl := nlb_t h1
          obtain rfl := ieq_iff.mp h2
          obtain ⟨t, rfl⟩ := ha
          obtain ⟨j, u, rfl, hj⟩ := hb
          obtain rfl : j = θ.hd := (show j = 0 + (θ.hd : Int) from hj).trans (Int.zero_add _)
          exact tabs_mul O S
        | _ => exact no_el e
      | _ => exact no_el e
    | _ => exact no_el e
  | Mod =>
    obtain rfl := Option.some.inj ho
    exact byInts (g := amod) (P := fun x y => Tri cx A (binaryOp .Mod x y) s _) e fun p q c i j t u k hp hq hv => mod_int' (amod_ok O k hp hq).2 (fin rfl rfl rfl (amod_ok O k hp hq).1 hv)
  | FloorDiv =>
    obtain rfl := Option.some.inj ho
    exact byInts (g := afdiv) (P := fun x y => Tri cx A (binaryOp .FloorDiv x y) s _) e fun p q c i j t u k hp hq hv => floordiv_int (afdiv_ok O k hp hq).2.1 (fin rfl rfl rfl (afdiv_ok O k hp hq).1 hv) (.inl (afdiv_ok O k hp hq).2.2)
  | _ => exact no_el ho
end
end Mine
namespace Mine
open PySem PySem.W PyProof.Rows PySem.Calls

/-- room for n steps more -/
structure AOk (A : Around) (n : Nat) : Prop where
  hd : A.handled = none
  dp : A.depth + n < recursionLimit
  un : A.units + 8 * n < cLine
theorem AOk.le {A : Around} {n m : Nat} (h : AOk A n) (hm : m ≤ n) : AOk A m := ⟨h.hd, Nat.lt_of_le_of_lt (Nat.add_le_add_left hm _) h.dp, Nat.lt_of_le_of_lt (Nat.add_le_add_left (Nat.mul_le_mul_left 8 hm) _) h.un⟩
theorem units_up (u n : Nat) {k : Nat} (hk : k ≤ 8) : u + k + 8 * n ≤ u + 8 * (n + 1) := by
  rw [Nat.add_assoc, Nat.add_comm k]
  exact Nat.add_le_add_left (Nat.add_le_add_left hk _) _
theorem depth_up (d n : Nat) : d + 1 + n = d + (n + 1) := by rw [Nat.add_assoc, Nat.add_comm 1]
theorem AOk.deeper {A : Around} {n : Nat} (h : AOk A (n + 1)) (env : Env) : AOk (A.deeper env) n :=
  ⟨h.hd, Nat.lt_of_le_of_lt (Nat.le_of_eq (depth_up _ n)) h.dp, Nat.lt_of_le_of_lt (units_up _ n (by decide)) h.un⟩
theorem AOk.in1 {A : Around} {n : Nat} (h : AOk A (n + 1)) : AOk A.in1 n := ⟨h.hd, Nat.lt_of_le_of_lt (Nat.add_le_add_left (Nat.le_succ n) _) h.dp, Nat.lt_of_le_of_lt (units_up _ n (by decide)) h.un⟩
theorem AOk.mark {A : Around} {n : Nat} (_h : AOk A n) : A.mark none = A := by
  obtain ⟨h, d, fr, gs, u⟩ := A
  rfl
theorem AOk.room {A : Around} {n : Nat} (h : AOk A n) : A.depth < recursionLimit := Nat.lt_of_le_of_lt (Nat.le_add_right _ n) h.dp
theorem AOk.units {A : Around} {n : Nat} (h : AOk A n) : A.units < cLine := Nat.lt_of_le_of_lt (Nat.le_add_right _ _) h.un

theorem lookup_of_ne {α : Type} {x y : Str} {v : α} {r : List (Str × α)} (h : x ≠ y) : List.lookup x ((y, v) :: r) = r.lookup x := by
  rw [List.lookup_cons, beq_eq_false_iff_ne.mpr h]
theorem lookup_self {α : Type} {x : Str} {v : α} {r : List (Str × α)} : List.lookup x ((x, v) :: r) = some v := by
  rw [List.lookup_cons, beq_self_eq_true]
/-- a test by the name -/
theorem se_el {α : Type} {x y : Str} {a : α} {o : Option α} {w : α} {P : Prop} (e : cond (se x y) (some a) o = some w) (h : x = y → a = w → P) (h' : x ≠ y → o = some w → P) : P := by
  cases hx : se x y with
  | true => rw [hx] at e; exact h (se_iff.mp hx) (Option.some.inj e)
  | false => rw [hx] at e; exact h' (se_false hx) e
theorem slot_out {x : Str} {k : NameKind} {ns : Names} : ∀ {n i : Nat}, slot x n ns = some (i, k) → ns.lookup x = some k ∧ ∃ j, i = n + j ∧ ns[j]? = some (x, k) := by
  induction ns with
  | nil => intro n i e; exact no_el e
  | cons p r ih =>
    obtain ⟨y, q⟩ := p
    intro n i e
    refine se_el e (fun h z => ?_) fun h e => ?_
    · subst h
      obtain ⟨rfl, rfl⟩ := Prod.mk.inj z
      exact ⟨lookup_self, 0, rfl, rfl⟩
    · obtain ⟨a, j, hj, b⟩ := ih e
      exact ⟨(lookup_of_ne h).trans a, j + 1, hj.trans (depth_up n j), b⟩
theorem slot_lookup {x : Str} {k : NameKind} {ns : Names} {i : Nat} (h : slot x 0 ns = some (i, k)) : ns.lookup x = some k := (slot_out h).1
theorem slot_inj {x y : Str} {k k' : NameKind} {ns : Names} {i : Nat} (h : slot x 0 ns = some (i, k)) (h' : slot y 0 ns = some (i, k')) : x = y := by
  obtain ⟨_, j, hj, a⟩ := slot_out h
  obtain ⟨_, j', hj', a'⟩ := slot_out h'
  obtain rfl := Nat.add_left_cancel (hj.symm.trans hj')
  exact congrArg Prod.fst (Option.some.inj (a.symm.trans a'))
theorem slot_lt {x : Str} {k : NameKind} {ns : Names} {i : Nat} (h : slot x 0 ns = some (i, k)) : i < ns.length := by
  obtain ⟨_, j, hj, a⟩ := slot_out h
  exact (hj.trans (Nat.zero_add j)) ▸ (List.getElem?_eq_some_iff.mp a).1
theorem assoc_in {β : Type} {x : Str} {v : β} {l : List (Str × β)} (e : assoc x l = some v) : (x, v) ∈ l := by
  induction l with
  | nil => exact no_el e
  | cons p r ih => exact se_el e (fun h z => h ▸ z ▸ .head _) fun _ e => .tail _ (ih e)

/-- a frame: the names of the block, what is known of them -/
structure Frm (θ : Th) (cx : Cx) (env : Env) (ns : Names) (F : AF) (ρ : List Addr) (s : Shared) : Prop where
  kind : env.scope.kind = .function
  names : ∀ x i k, slot x 0 ns = some (i, k) → env.kindOf x = some k ∨ (k = .free ∧ env.kindOf x = some .cell)
  few : ns.length + 1 < 2 ^ 10
  glob : env.globals = mainGlobals
  blt : env.builtins = builtinsNs
  nin : env.locals ∉ ρ
  old : cx.h₁.objs.size ≤ env.locals
  loc : ∃ m, s.heap.Ns env.locals m ∧ ∀ x i v, slot x 0 ns = some (i, .local) → F.loc.get i = some v → ∃ y, m x = some y ∧ VRel θ ρ v y
  cel : ∀ x i k j, slot x 0 ns = some (i, k) → celAt i F.cel = some j → ∃ a, env.cells.lookup x = some a ∧ ρ[j]? = some a

/-- what is asked of the fixed part -/
structure COk (cx : Cx) : Prop where
  tabs : ∀ T ∈ cx.tabs, T < cx.h₁.objs.size
  K : cx.K.In cx.h₀
  top : ∃ loose : Program × List Str, TopRead loose.1 loose.2 cx.mg cx.mb cx.h₀

section
variable {cx : Cx} {θ : Th} {X ρ ρ' : List Addr} {H H' : AH} {s s' s'' : Shared} {A : Around} {env : Env} {ns : Names} {F : AF}
theorem Frm.step (C : COk cx) (f : Frm θ cx env ns F ρ s) (l : Lk cx X ρ s ρ' s') (hX : env.locals ∉ X) : Frm θ cx env ns F ρ' s' := by
  obtain ⟨m, hn, hl⟩ := f.loc
  have hT : env.locals ∉ cx.tabs := fun h => Nat.lt_irrefl _ (Nat.lt_of_lt_of_le (C.tabs _ h) f.old)
  refine ⟨f.kind, f.names, f.few, f.glob, f.blt, l.nin f.nin hn.lt, f.old, ⟨m, hn.at' fun o e => l.keep.heap _ o e (fun h => (List.mem_append.mp h).elim hX f.nin) hT, fun x i v h h' => ?_⟩, fun x i k j h h' => ?_⟩
  · obtain ⟨y, a, b⟩ := hl x i v h h'
    exact ⟨y, a, l.vrel b⟩
  · obtain ⟨a, b, c⟩ := f.cel x i k j h h'
    exact ⟨a, b, l.at c⟩
theorem Frm.step0 (C : COk cx) (f : Frm θ cx env ns F ρ s) (l : Lk cx [] ρ s ρ' s') : Frm θ cx env ns F ρ' s' := f.step C l fun h => nomatch h
theorem AF.get_store {F : AF} {i : Nat} (h : i + 1 < 2 ^ 10) (v : AV) (j : Nat) : (F.store i v).loc.get j = if j = i then some v else F.loc.get j := Tr.get_put v 10 F.loc i j h

theorem Frm.store {x : Str} {i : Nat} {v : AV} {y : Value} {m : Str → Option Value} (f : Frm θ cx env ns F ρ s) (hx : slot x 0 ns = some (i, .local)) (hm : s.heap.Ns env.locals m)
    (hm' : s'.heap.Ns env.locals fun z => if z = x then some y else m z) (hv : VRel θ ρ v y) : Frm θ cx env ns (F.store i v) ρ s' := by
  refine ⟨f.kind, f.names, f.few, f.glob, f.blt, f.nin, f.old, ⟨_, hm', fun z j u hz hj => ?_⟩, f.cel⟩
  have hi : i + 1 < 2 ^ 10 := Nat.lt_of_le_of_lt (Nat.succ_le_succ (Nat.le_of_lt (slot_lt hx))) f.few
  rw [AF.get_store hi] at hj
  obtain ⟨m₀, hn, hl⟩ := f.loc
  by_cases e : j = i
  · rw [if_pos e] at hj
    subst e
    obtain rfl := slot_inj hz hx
    exact ⟨y, if_pos rfl, Option.some.inj hj ▸ hv⟩
  · rw [if_neg e] at hj
    obtain ⟨w, a, b⟩ := hl z j u hz hj
    have hne : z ≠ x := fun q => e (congrArg Prod.fst (Option.some.inj (hz.symm.trans (q ▸ hx))))
    refine ⟨w, ?_, b⟩
    rw [if_neg hne]
    obtain ⟨o, es, ep, ho, hd, hk, hf⟩ := hm
    obtain ⟨o', es', ep', ho', hd', hk', hf'⟩ := hn
    obtain rfl := Option.some.inj (ho.symm.trans ho')
    obtain ⟨rfl, _⟩ := Data.dict.inj (hd.symm.trans hd')
    exact (hf z).symm.trans ((hf' z).trans a)

/-- a name of the block is stored -/
theorem store_ok {x : Str} {i : Nat} {v : AV} {y : Value} {P : Unit → Shared → Prop} (S : St cx θ ρ H s) (f : Frm θ cx env ns F ρ s) (hx : slot x 0 ns = some (i, .local)) (hv : VRel θ ρ v y)
    (h : ∀ s', Lk cx [env.locals] ρ s ρ s' → St cx θ ρ H s' → Frm θ cx env ns (F.store i v) ρ s' → P () s') : Tri cx A (storeName env x y) s P := by
  obtain ⟨m, hn, hl⟩ := f.loc
  have hk : env.kindOf x = some .local := (f.names x i _ hx).resolve_right fun e => nomatch e.1
  refine wpAny_storeName_local hk hn (fun h' hn' hs => ?_) (by rw [f.kind]; rfl)
  refine h _ ⟨⟨[], (List.append_nil _).symm, fun _ m => nomatch m⟩, fun b o e hb _ => (hs.2 b fun z => hb (z ▸ .head _)).trans e, rfl, by show _ ≤ h'.objs.size; rw [hs.1]; exact Nat.le_refl _⟩
    (S.aside f.nin f.old hs rfl) (f.store hx hn hn' hv)
end

/-- a new object by its checked step -/
theorem pushR_ok {cx : Cx} {θ : Th} {X ρ : List Addr} {H H' : AH} {s : Shared} {ao : AO} {o : Obj} {v : AV} (S : St cx θ ρ H s) (e : pushR H ao = some (v, H')) (hf : o.isFreed = false) (hr : ORel θ ρ ao o) :
    Aft cx θ X ρ s H' (fun ρ' => VRel θ ρ' v (.ref s.heap.objs.size)) { s with heap := s.heap.push o } := by
  exact cs2e (Q := fun v H' => Aft cx θ X ρ s H' (fun ρ' => VRel θ ρ' v (.ref s.heap.objs.size)) { s with heap := s.heap.push o }) e fun h =>
    ⟨_, Lk.push, S.push (Nat.lt_trans (Nat.add_lt_add_right (Nat.blt_eq.mp h) 2) (by decide)) hf hr.mono, _, by rw [← S.len]; exact List.getElem?_concat_length, rfl⟩

/-! the text -/
noncomputable def Cv (ns : Names) (E : Expr) (e : AX) : Prop := ∃ m, cv m ns E = some e
noncomputable def Cs (ns : Names) (S : Stmt) (t : AS) : Prop := ∃ m n, cs m n ns S = some t
theorem Cv.out {ns : Names} {E : Expr} {e : AX} (h : Cv ns E e) : ∃ m, cvStep (cv m) ns E = some e := by
  obtain ⟨m, h⟩ := h
  cases m with
  | zero => cases h
  | succ m => exact ⟨m, h⟩
theorem mapO_out {α β : Type} {g : α → Option β} {l : List α} : ∀ {r : List β}, mapO g l = some r → All2 (fun a b => g a = some b) l r := by
  induction l with
  | nil => intro r e; exact Option.some.inj e ▸ .nil
  | cons x l ih => intro r e; exact ob_el e fun y hx e => ob_el e fun q hl e => Option.some.inj e ▸ .cons hx (ih hl)
theorem Cv.list {ns : Names} {m : Nat} {l : List Expr} {r : List AX} (h : mapO (cv m ns) l = some r) : All2 (Cv ns) l r := (mapO_out h).imp fun _ _ e => ⟨m, e⟩

/-! what is to be shown of the interpreter's parts -/
section
variable (cx : Cx) (θ : Th)
noncomputable def EvOk (f : Fns) (n : Nat) : Prop := ∀ {A : Around} {env : Env} {ns : Names} {F : AF} {ρ : List Addr} {H : AH} {s : Shared} {E : Expr} {e : AX} {v : AV} {H' : AH},
  AOk A n → Frm θ cx env ns F ρ s → St cx θ ρ H s → Cv ns E e → f.ev F H e = some (v, H') → Tri cx A (eval E env) s (Res cx θ ρ s H' v)
noncomputable def TrOk (f : Fns) (n : Nat) : Prop := ∀ {A : Around} {env : Env} {ns : Names} {F : AF} {ρ : List Addr} {H : AH} {s : Shared} {E : Expr} {e : AX} {b : Bool} {H' : AH},
  AOk A n → Frm θ cx env ns F ρ s → St cx θ ρ H s → Cv ns E e → f.tr F H e = some (b, H') → Tri cx A (isTrue E env (eval E env)) s fun b' => Aft cx θ [] ρ s H' fun _ => b' = b
noncomputable def FlR (ρ : List Addr) : Fl → Flow → Prop
  | .next, x => x = .next
  | .brk, x => x = .brk
  | .cont, x => x = .cont
  | .ret v, x => ∃ y, x = .ret y ∧ VRel θ ρ v y
noncomputable def ExPost (env : Env) (ns : Names) (ρ : List Addr) (s : Shared) (fl : Fl) (F' : AF) (H' : AH) (x : Flow) (s' : Shared) : Prop := Aft cx θ [env.locals] ρ s H' (fun ρ' => FlR θ ρ' fl x ∧ Frm θ cx env ns F' ρ' s') s'
noncomputable def ExOk (f : Fns) (n : Nat) : Prop := ∀ {A : Around} {env : Env} {ns : Names} {F : AF} {ρ : List Addr} {H : AH} {s : Shared} {S : Stmt} {t : AS} {fl : Fl} {F' : AF} {H' : AH},
  AOk A n → Frm θ cx env ns F ρ s → St cx θ ρ H s → Cs ns S t → f.ex F H t = some (fl, F', H') → Tri cx A (exec S env) s (ExPost cx θ env ns ρ s fl F' H')
end
end Mine
namespace Mine
open PySem PySem.W PyProof.Rows PySem.Calls

noncomputable def bfVal : BF → Value
  | .len => .builtin "len"
  | .ord => .builtin "ord"
  | .chr => .builtin "chr"
  | .str => .type "str"
/-- the function that a method's name means, by what it is called on -/
noncomputable def methF (_ : Nat) (n : Me) : Value := match n with
  | .append => .builtin "list.append"
  | .join => .builtin "str.join"
  | .split => .builtin "str.split"
  | .isspace => .builtin "str.isspace"
  | .index => .builtin "str.index"
  | .chunk => .ref 91
  | .str_ => .ref 42
  | .newline => .ref 56
  | .push => .ref 122
  | .popFrom => .ref 130
  | .reset => .ref 160
  | .onlyws => .ref 167
  | .count => .ref 175
  | .pop => .ref 138
/-- run by its body -/
noncomputable def byBody (kd : Nat) (n : Me) : Option Nat := match n with
  | .chunk => cond (Nat.beq kd 2) (some 91) none
  | .str_ => cond (Nat.beq kd 2) (some 42) none
  | .newline => cond (Nat.beq kd 2) (some 56) none
  | .push => cond (Nat.beq kd 3) (some 122) none
  | .popFrom => cond (Nat.beq kd 3) (some 130) none
  | .reset => cond (Nat.beq kd 3) (some 160) none
  | .onlyws => cond (Nat.beq kd 3) (some 167) none
  | _ => none
/-- the call of f keeps its frame apart, or is the machine's -/
noncomputable def KeepF (cx : Cx) (f : Value) : Prop := ∀ (M : Model) h, cx.K.In h → ∃ k, (k = Keeper.frame ∨ k = Keeper.machine ∨ k = Keeper.boundFrame) ∧ Looks M h (keeperOf f) k

noncomputable def ItItems (θ : Th) (h : Heap) (I : Addr) (xs : List AV) : Prop :=
  (∃ (a : Int) (n : Nat), IsRangeIter h I a n 1 ∧ xs = upFrom a n) ∨ (∃ (a : Int) (n : Nat), IsRangeIter h I a n (-1) ∧ xs = downFrom a n) ∨
  (∃ ty l t i, (ty = "str_ascii_iterator" ∨ ty = "str_iterator") ∧ h.IsStrIter I ty (θ.tx l) t i ∧ xs = (l.drop i).map fun c => .str [c])
noncomputable def ItRel (θ : Th) (ρ : List Addr) (h : Heap) (I : Addr) : IT → Prop
  | .items xs => ItItems θ h I xs
  | .lst k j => ∃ a, ρ[k]? = some a ∧ h.IsListIter I a j
/-- an iterator's object -/
structure ItOk (cx : Cx) (θ : Th) (ρ : List Addr) (s : Shared) (I : Addr) (it : IT) : Prop where
  nin : I ∉ ρ
  old : cx.h₁.objs.size ≤ I
  lt : I < s.heap.objs.size
  rel : ItRel θ ρ s.heap I it

section
variable (cx : Cx) (θ : Th)
noncomputable def CallPost (ρ : List Addr) (s : Shared) (v : AV) (H' : AH) (r : Result) (s' : Shared) : Prop := match r with
  | .ok (.ret y) => Res cx θ ρ s H' v y s'
  | _ => False
noncomputable def CallOk (f : Fns) (n : Nat) : Prop := ∀ {A : Around} {ρ : List Addr} {H : AH} {s : Shared} {a : Nat} {args : List AV} {vals : List Value} {v : AV} {H' : AH},
  AOk A n → St cx θ ρ H s → All2 (VRel θ ρ) args vals → f.call H a args = some (v, H') → codeAny (model cx.prog cx.w) A (.call (.ref a) ⟨vals, []⟩) (CallPost cx θ ρ s v H') s
/-- an iterator is come to -/
noncomputable def IterPost (ρ : List Addr) (s : Shared) (H : AH) (it : IT) (x : Value) (s' : Shared) : Prop := ∃ I, x = .ref I ∧ s.heap.objs.size ≤ I ∧ Aft cx θ [] ρ s H (fun ρ' => ItOk cx θ ρ' s' I it) s'
noncomputable def NextRel (ρ : List Addr) (s : Shared) (I : Addr) : Option (AV × IT) → Option Value → Prop
  | none, x => x = none
  | some p, x => ∃ y, x = some y ∧ VRel θ ρ p.1 y ∧ ItOk cx θ ρ s I p.2

/-- the single steps: what the abstract operations say of the true ones -/
structure Leaf : Prop where
  truth : ∀ {A ρ H s v x b}, AOk A 8 → St cx θ ρ H s → VRel θ ρ v x → truth H v = some b → Tri cx A (truthy x) s fun b' => Aft cx θ [] ρ s H fun _ => b' = b
  cmp : ∀ {A ρ H s a b x y op cop v}, AOk A 8 → St cx θ ρ H s → VRel θ ρ a x → VRel θ ρ b y → copOf op = some cop → compare H cop a b = some v → Tri cx A (compareOp op x y) s (Res cx θ ρ s H v)
  gipI : ∀ {A ρ H s o i x v}, St cx θ ρ H s → VRel θ ρ o x → itemOf H o i = some v → Tri cx A (getitemInPython x) s fun b s' => b = false ∧ s' = s
  gipS : ∀ {A ρ H s o l u x v H'}, St cx θ ρ H s → VRel θ ρ o x → sliceOf H o l u = some (v, H') → Tri cx A (getitemInPython x) s fun b s' => b = false ∧ s' = s
  itm : ∀ {A ρ H s o i x y v}, AOk A 8 → St cx θ ρ H s → VRel θ ρ o x → VRel θ ρ i y → itemOf H o i = some v → Tri cx A (getItem x y) s (Res cx θ ρ s H v)
  slc : ∀ {A ρ H s o l u x y z a v H'}, AOk A 8 → St cx θ ρ H s → VRel θ ρ o x → VRel θ ρ l y → VRel θ ρ u z → s.heap.get? a = some { cls := .type "slice", data := .fields #[y, z, .none] } →
    sliceOf H o l u = some (v, H') → Tri cx A (getItem x (.ref a)) s (Res cx θ ρ s H' v)
  att : ∀ {A ρ H s o x n nm v}, AOk A 8 → St cx θ ρ H s → VRel θ ρ o x → attrs[n]? = some nm → getAttrA H o n = some v → Tri cx A (getAttr x nm true) s (Res cx θ ρ s H v)
  gval : ∀ {x v}, (x, v) ∈ gvals → ∃ y, cx.mg x = some y ∧ ∀ ρ, VRel θ ρ v y
  gtop : ∀ {x a}, (x, a) ∈ gtops → cx.mg x = some (.ref a) ∧ KeepF cx (.ref a)
  gbuf : ∀ {x b}, (x, b) ∈ gbufs → cx.mg x = none ∧ cx.mb x = some (bfVal b)
  grange : cx.mg "range" = none ∧ cx.mb "range" = some (.type "range")
  bcall : ∀ {A ρ H s b vs ys v H'}, AOk A 8 → St cx θ ρ H s → All2 (VRel θ ρ) vs ys → builtinCall H b vs = some (v, H') → Tri cx A (call (bfVal b) ys []) s (Res cx θ ρ s H' v)
  page : ∀ {f : Fns} {n : Nat} {A ρ H s vs ys v H'}, CallOk cx θ f n → AOk A (n + 8) → St cx θ ρ H s → All2 (VRel θ ρ) vs ys → callPage f H vs = some (v, H') → Tri cx A (call (.ref 94) ys []) s (Res cx θ ρ s H' v)
  acc : ∀ {A ρ H s vs ys v H'}, AOk A 8 → St cx θ ρ H s → All2 (VRel θ ρ) vs ys → callAcc H vs = some (v, H') → Tri cx A (call (.ref 178) ys []) s (Res cx θ ρ s H' v)
  getM : ∀ {A ρ H s o x kd n nm pl}, St cx θ ρ H s → VRel θ ρ o x → kindO H o = some kd → okKind kd n = true → (nm, n) ∈ meths → Tri cx A (getMethod x nm pl) s fun r s' => r = (methF kd n, [x]) ∧ s' = s
  keepM : ∀ {kd n}, okKind kd n = true → KeepF cx (methF kd n)
  prim : ∀ {f : Fns} {A ρ H s o x kd n vs ys v H'}, AOk A 8 → St cx θ ρ H s → VRel θ ρ o x → All2 (VRel θ ρ) vs ys → kindO H o = some kd → okKind kd n = true → byBody kd n = none → callMeth f H o n vs = some (v, H') →
    Tri cx A (call (methF kd n) (x :: ys) []) s (Res cx θ ρ s H' v)
  star : ∀ {f : Fns} {n : Nat} {A ρ H s o x pos} {t : Sem Value} {tv H₁ vs v H'}, CallOk cx θ f n → AOk A (n + 8) → St cx θ ρ H s → VRel θ ρ o x → kindO H o = some 3 →
    (∀ s₁, Lk cx [] ρ s ρ s₁ → St cx θ ρ H s₁ → Tri cx A t s₁ (Res cx θ ρ s₁ H₁ tv)) → kindO H₁ o = some 3 → starTup H₁ tv = some vs → f.call H₁ 122 (o :: vs) = some (v, H') →
    Tri cx A (getAttr x "push" true) s fun m s₁ => Tri cx A (callWith pos m [] [(true, t)] []) s₁ (Res cx θ ρ s H' v)
  iter : ∀ {A ρ H s v x it}, AOk A 8 → St cx θ ρ H s → VRel θ ρ v x → itersOf H v = some it → Tri cx A (pyIter x) s (IterPost cx θ ρ s H it)
  iterI : ∀ {A ρ H s I it}, AOk A 8 → St cx θ ρ H s → ItOk cx θ ρ s I it → Tri cx A (pyIter (.ref I)) s fun x s' => x = .ref I ∧ s' = s
  range : ∀ {A ρ H s vs ys l}, AOk A 8 → St cx θ ρ H s → All2 (VRel θ ρ) vs ys → rangeItems vs = some l → Tri cx A (call (.type "range") ys []) s fun x s₁ => Aft cx θ [] ρ s H (fun ρ₁ => ∀ {A'}, AOk A' 8 → Tri cx A' (pyIter x) s₁ (IterPost cx θ ρ₁ s₁ H (.items l))) s₁
  next : ∀ {A ρ H s I it r}, AOk A 8 → St cx θ ρ H s → ItOk cx θ ρ s I it → nextIT H it = some r → Tri cx A (pyNext (.ref I)) s fun x s' => Aft cx θ [I] ρ s H (fun ρ' => NextRel cx θ ρ' s' I r x) s'
  unp : ∀ {A ρ H s v x vs}, AOk A 8 → St cx θ ρ H s → VRel θ ρ v x → unpackA H v = some vs → Tri cx A (unpackItems x vs.length none) s fun ys s' => Aft cx θ [] ρ s H (fun ρ' => All2 (VRel θ ρ') vs ys) s'
  sat : ∀ {A ρ H s o x n nm v y H'}, AOk A 8 → St cx θ ρ H s → VRel θ ρ o x → VRel θ ρ v y → attrs[n]? = some nm → setAttrA H o n v = some H' → Tri cx A (setAttr x nm y) s fun _ => Aft cx θ [] ρ s H' fun _ => True
  meet : ∀ {A ρ H s o x p pl}, St cx θ ρ H s → VRel θ ρ o x → roomsOf H o = some p → Tri cx A (getMethod x "_maxlengths" pl) s fun r s' => r = (.ref 77, [x]) ∧ s' = s
  keep77 : KeepF cx (.ref 77)
  gnext : cx.mg "next" = none ∧ cx.mb "next" = some (.builtin "next")
  rooms : ∀ {A ρ H s o x p}, AOk A 8 → St cx θ ρ H s → VRel θ ρ o x → roomsOf H o = some p → Tri cx A (call (.ref 77) [x] []) s fun g s₁ => ∃ (G : Nat → Shared → Prop) (X : List Addr), (∀ b ∈ X, s.heap.objs.size ≤ b) ∧
    Lk cx [] ρ s ρ s₁ ∧ St cx θ ρ H s₁ ∧ G 0 s₁ ∧ (∀ k s₂ s₃, G k s₂ → (∀ b o, s.heap.objs.size ≤ b → s₂.heap.get? b = some o → s₃.heap.get? b = some o) → s₃.gens = s₂.gens → G k s₃) ∧
    (∀ {s₂}, G 0 s₂ → St cx θ ρ H s₂ → Tri cx A (call (.builtin "next") [g] []) s₂ fun y s₃ => Lk cx X ρ s₂ ρ s₃ ∧ St cx θ ρ H s₃ ∧ VRel θ ρ (.int p.1) y ∧ G 1 s₃) ∧
    (∀ {s₂}, G 1 s₂ → St cx θ ρ H s₂ → Tri cx A (call (.builtin "next") [g] []) s₂ fun y s₃ => Lk cx X ρ s₂ ρ s₃ ∧ St cx θ ρ H s₃ ∧ VRel θ ρ (.int p.2) y)
  ssl : ∀ {A ρ H s o l v x y z a H'}, AOk A 8 → St cx θ ρ H s → VRel θ ρ o x → VRel θ ρ l y → VRel θ ρ v z → s.heap.get? a = some { cls := .type "slice", data := .fields #[y, .none, .none] } →
    setSlice H o l v = some H' → Tri cx A (setItem x (.ref a) z) s fun _ => Aft cx θ [] ρ s H' fun _ => True
end

section
variable {cx : Cx} {θ : Th} {X ρ ρ' : List Addr} {H H' : AH} {s s' s'' : Shared} {A : Around} {env : Env} {ns : Names} {F : AF}
theorem callWith_at {f : Value} {first : List Value} {args : List (Bool × Sem Value)} {Q : Value → Shared → Prop} {pos : Pos} (hp : args.any (·.1) = false)
    (hk : KeepF cx f) (h : Tri cx A (spliced args) s fun vs s₁ => cx.K.In s₁.heap ∧ Tri cx A (call f (first ++ vs) []) s₁ Q) :
    Tri cx A (callWith pos f first args []) s Q :=
  callWith_of (P := cx.K.In) (by rw [hp]; rfl) (fun h => hk _ h) (by
    cases args with
    | nil =>
      unfold evalArgs
      show wpAny _ A (spliced [] >>= _) _ _ s
      refine wpAny_bind (wpAny_mono h (fun vs s' h' => wpAny_bind (wpAny_pure ?_)) fun _ _ e => e)
      refine wpAny_holding ?_
      exact wpAny_bind (wpAny_pure (wpAny_bind (wpAny_pure (wpAny_pure h'))))
    | cons a r =>
      obtain ⟨b, t⟩ := a
      cases b with
      | true => cases hp
      | false => exact evalArgs_plain h)

theorem starEach_cons {E : Expr} {e : AX} {r : List Expr} (h : Cv ns E e) : starEach (E :: r) env = (false, eval E env) :: starEach r env := by
  obtain ⟨m, h⟩ := h.out
  cases E <;> first | rfl | exact no_el h
theorem noStars {pos : Pos} {Es : List Expr} {es : List AX} (h : All2 (Cv ns) Es es) : (backTo pos (starEach Es env)).any (·.1) = false := by
  induction h with
  | nil => rfl
  | cons h _ ih => rw [starEach_cons h]; exact ih

theorem evs_ok (C : COk cx) {f : Fns} {n : Nat} (ev : EvOk cx θ f n) {pos : Pos} (hA : AOk A n) {Es : List Expr} {es : List AX} (h : All2 (Cv ns) Es es) : ∀ {ρ : List Addr} {H H' : AH} {s : Shared} {vs : List AV}, Frm θ cx env ns F ρ s → St cx θ ρ H s →
    evs f F H es = some (vs, H') → Tri cx A (spliced (backTo pos (starEach Es env))) s fun ys s' => Aft cx θ [] ρ s H' (fun ρ' => All2 (VRel θ ρ') vs ys) s' := by
  induction h with
  | nil =>
    intro ρ H H' s vs Fr S e
    exact sm2e (Q := fun vs H' => Tri cx A _ s fun ys s' => Aft cx θ [] ρ s H' (fun ρ' => All2 (VRel θ ρ') vs ys) s') e (wpAny_items_nil (.here S .nil))
  | cons h _ ih =>
    intro ρ H H' s vs Fr S e
    refine ob2_el e fun v H₁ h1 e => ob2_el e fun us H₂ h2 e => ?_
    obtain ⟨rfl, rfl⟩ := sm2 e
    exact wpAny_items_cons (Tri.mono (ev hA Fr S h h1) fun x s₁ ⟨ρ₁, l₁, S₁, v₁⟩ => Tri.mono (ih (Fr.step0 C l₁) S₁ h2) fun ys s₂ ⟨ρ₂, l₂, S₂, v₂⟩ => ⟨ρ₂, l₁.trans l₂, S₂, .cons (l₂.vrel v₁) v₂⟩) (starEach_cons h)

/-- a call by a name or a method: the operands, then the call -/
theorem callWith_ev (C : COk cx) {f : Fns} {n : Nat} (ev : EvOk cx θ f n) (hA : AOk A n) {pos pos' : Pos} {Es : List Expr} {es : List AX} {vs : List AV} {g : Value} {first : List Value} {Q : Value → Shared → Prop}
    (h : All2 (Cv ns) Es es) (Fr : Frm θ cx env ns F ρ s) (S : St cx θ ρ H s) (e : evs f F H es = some (vs, H')) (hk : KeepF cx g)
    (k : ∀ ys ρ' s', Lk cx [] ρ s ρ' s' → St cx θ ρ' H' s' → All2 (VRel θ ρ') vs ys → Tri cx A (call g (first ++ ys) []) s' Q) :
    Tri cx A (callWith pos g first (backTo pos' (starEach Es env)) (backToKw pos (keywordEach [] env))) s Q :=
  callWith_at (noStars h) hk (Tri.mono (evs_ok C ev hA h Fr S e) fun ys s₁ ⟨ρ₁, l₁, S₁, v₁⟩ => ⟨C.K.keeps S₁.base, k ys ρ₁ s₁ l₁ S₁ v₁⟩)
end

section
variable {cx : Cx} {θ : Th} {X ρ ρ' : List Addr} {H H' : AH} {s s' s'' : Shared} {A : Around} {env : Env} {ns : Names} {F : AF} {f : Fns} {n : Nat} {v : AV}
/-! names -/
theorem beq_of_se {x y : Str} (h : se x y = false) : (x == y) = false := beq_eq_false_iff_ne.mpr (se_false h)
theorem isGlobal_lk {x : Str} (h : isGlobal ns x = true) : ∃ i, slot x 0 ns = some (i, .globalImplicit) := by
  unfold isGlobal at h
  cases hs : slot x 0 ns with
  | none => rw [hs] at h; cases h
  | some p =>
    obtain ⟨i, k⟩ := p
    rw [hs] at h
    cases k with
    | globalImplicit => exact ⟨i, rfl⟩
    | _ => cases h
theorem Frm.kOf (Fr : Frm θ cx env ns F ρ s) {x : Str} {i : Nat} {k : NameKind} (h : slot x 0 ns = some (i, k)) (hk : k ≠ .free) : env.kindOf x = some k := (Fr.names x i _ h).resolve_right fun e => hk e.1
theorem global_load (C : COk cx) (Fr : Frm θ cx env ns F ρ s) (S : St cx θ ρ H s) {x : Str} {pos : Pos} {y : Value} {Q : Value → Shared → Prop} (hx : isGlobal ns x = true) (hd : se x "__debug__" = false) (hv : cx.mg x = some y) (h : Q y s) :
    Tri cx A (eval (.Name x pos) env) s Q := by
  obtain ⟨i, hs⟩ := isGlobal_lk hx
  obtain ⟨loose, T⟩ := C.top
  exact Name_function_global Fr.kind (Fr.kOf hs fun e => nomatch e) (loadGlobal_global (env := env) (by rw [Fr.glob]; exact T.g.keeps S.base) hv h) (beq_of_se hd)
theorem builtin_load (C : COk cx) (Fr : Frm θ cx env ns F ρ s) (S : St cx θ ρ H s) {x : Str} {pos : Pos} {y : Value} {Q : Value → Shared → Prop} (hx : isGlobal ns x = true) (hd : se x "__debug__" = false) (hm : cx.mg x = none) (hv : cx.mb x = some y) (h : Q y s) :
    Tri cx A (eval (.Name x pos) env) s Q := by
  obtain ⟨i, hs⟩ := isGlobal_lk hx
  obtain ⟨loose, T⟩ := C.top
  exact Name_function_global Fr.kind (Fr.kOf hs fun e => nomatch e) (loadGlobal_builtin (env := env) (by rw [Fr.glob]; exact T.g.keeps S.base) hm (by rw [Fr.blt]; exact T.b.keeps S.base) hv h) (beq_of_se hd)
theorem wv_el {H H' : AH} {o : Option AV} {P : AH → Prop} (e : wv H o = some (v, H')) (h : o = some v → P H) : P H' := by
  cases o with
  | none => exact no_el e
  | some u => exact sm2e (Q := fun v H' => (some u = some v → P H) → P H') e (fun h => h rfl) h

theorem cell_load (Fr : Frm θ cx env ns F ρ s) (S : St cx θ ρ H s) {x : Str} {pos : Pos} {i : Nat} {k : NameKind} (hd : (x == ("__debug__" : Str)) = false) (hs : slot x 0 ns = some (i, k)) (hk : k = .cell ∨ k = .free) (hc : k = .free → (x == ("__classdict__" : Str)) = false) (he : stepEv f F H (.cel i) = some (v, H')) :
    Tri cx A (eval (.Name x pos) env) s (Res cx θ ρ s H' v) := by
  refine wv_el (P := fun H' => Tri cx A _ s (Res cx θ ρ s H' v)) he fun hu => ob_el hu fun j hj hu => ?_
  cases hw : H.get j with
  | none => rw [hw] at hu; exact no_el hu
  | some o =>
    rw [hw] at hu
    cases o with
    | cell w =>
      cases w with
      | none => exact no_el hu
      | some w =>
        obtain rfl := Option.some.inj hu
        obtain ⟨a, ha, hρ⟩ := Fr.cel x _ _ _ hs hj
        obtain ⟨o, ho, hr⟩ := S.getO hρ hw
        obtain ⟨w', hw', y, rfl, hv⟩ := hr
        have hcl : s.heap.IsCell a (some y) := ⟨_, ho, hw'⟩
        have byC : env.kindOf x = some .cell → Tri cx A (eval (.Name x pos) env) s (Res cx θ ρ s H w) := fun e1 => wpAny_Name (wpAny_loadName_cell Fr.kind e1 ha hcl (.here S hv)) hd
        rcases Fr.names x _ _ hs with e1 | e1
        · rcases hk with rfl | rfl
          · exact byC e1
          · exact wpAny_Name (wpAny_loadName_free Fr.kind e1 ha hcl (.here S hv) (hc rfl)) hd
        · exact byC e1.2
    | _ => exact no_el hu
theorem ev_name (C : COk cx) (L : Leaf cx θ) (Fr : Frm θ cx env ns F ρ s) (S : St cx θ ρ H s) {x : Str} {pos : Pos} {e : AX} (hc : cvName ns x = some e) (he : stepEv f F H e = some (v, H')) :
    Tri cx A (eval (.Name x pos) env) s (Res cx θ ρ s H' v) := by
  unfold cvName at hc
  cases hd : se x "__debug__" with
  | true => rw [hd] at hc; exact no_el hc
  | false =>
    rw [hd] at hc
    refine ob2_el hc fun i k hs hc => ?_
    cases k with
    | «local» =>
      obtain rfl := Option.some.inj hc
      refine wv_el (P := fun H' => Tri cx A _ s (Res cx θ ρ s H' v)) he fun hu => ?_
      obtain ⟨m, hn, hl⟩ := Fr.loc
      obtain ⟨y, hy, hv⟩ := hl x i v hs hu
      exact wpAny_Name (wpAny_loadName_local Fr.kind (Fr.kOf hs fun e => nomatch e) hn hy (.here S hv)) (beq_of_se hd)
    | cell =>
      obtain rfl := Option.some.inj hc
      exact cell_load Fr S (beq_of_se hd) hs (.inl rfl) (fun e1 => nomatch e1) he
    | free =>
      cases hq : se x "__classdict__" with
      | true => rw [hq] at hc; exact no_el hc
      | false =>
        rw [hq] at hc
        obtain rfl := Option.some.inj hc
        exact cell_load Fr S (beq_of_se hd) hs (.inr rfl) (fun _ => beq_of_se hq) he
    | globalImplicit =>
      refine ob_el hc fun u hu hc => ?_
      obtain rfl := Option.some.inj hc
      obtain ⟨rfl, rfl⟩ := sm2 he
      obtain ⟨y, hy, hv⟩ := L.gval (assoc_in hu)
      exact global_load C Fr S (by unfold isGlobal; rw [hs]) hd hy (.here S (hv _))
    | _ => exact no_el hc
end
end Mine
namespace Mine
open PySem PySem.W PyProof.Rows PySem.Calls

section
variable {cx : Cx} {θ : Th} {X ρ ρ' : List Addr} {H H' : AH} {s s' s'' : Shared} {A : Around} {env : Env} {ns : Names} {F : AF} {f : Fns} {n : Nat} {v : AV}

theorem cond_true {α : Type} {c : Bool} {x : Option α} {y : α} (h : cond c x none = some y) : c = true ∧ x = some y := by
  cases c with
  | true => exact ⟨rfl, h⟩
  | false => cases h
theorem wv_out {H : AH} {o : Option AV} (e : wv H o = some (v, H')) : o = some v ∧ H' = H := wv_el (P := fun H' => o = some v ∧ H' = H) e fun h => ⟨h, rfl⟩
theorem evBin_out {l r : AX} {op : BOp} (e : evBin f F H l op r = some (v, H')) : ∃ a H₁ b, f.ev F H l = some (a, H₁) ∧ f.ev F H₁ r = some (b, H') ∧ binop op a b = some v :=
  ob2_el e fun a H₁ h1 e => ob2_el e fun b H₂ h2 e => wv_el (P := fun H' => ∃ a H₁ b, f.ev F H l = some (a, H₁) ∧ f.ev F H₁ r = some (b, H') ∧ binop op a b = some v) e fun h => ⟨a, H₁, b, h1, h2, h⟩
theorem ev_bin (C : COk cx) (O : θ.Ok) (hA : AOk A n) (ev : EvOk cx θ f n) (Fr : Frm θ cx env ns F ρ s) (S : St cx θ ρ H s) {l r : Expr} {l' r' : AX} {op : Operator} {bop : BOp} {pos : Pos} (hl : Cv ns l l') (hr : Cv ns r r') (ho : bopOf op = some bop)
    (e : evBin f F H l' bop r' = some (v, H')) : Tri cx A (eval (.BinOp l op r pos) env) s (Res cx θ ρ s H' v) := by
  obtain ⟨a, H₁, b, h1, h2, h3⟩ := evBin_out e
  refine wpAny_BinOp (Tri.mono (ev hA Fr S hl h1) fun x s₁ ⟨ρ₁, l₁, S₁, v₁⟩ => Tri.mono (ev hA (Fr.step0 C l₁) S₁ hr h2) fun y s₂ ⟨ρ₂, l₂, S₂, v₂⟩ => ?_)
  exact Tri.mono (binop_ok O S₂ ho h3 (l₂.vrel v₁) v₂) fun z s₃ r₃ => r₃.step (l₁.trans l₂)

theorem evCmp_out {l r : AX} {op : COp} (e : evCmp f F H l op r = some (v, H')) : ∃ a H₁ b, f.ev F H l = some (a, H₁) ∧ f.ev F H₁ r = some (b, H') ∧ compare H' op a b = some v :=
  ob2_el e fun a H₁ h1 e => ob2_el e fun b H₂ h2 e => wv_el (P := fun H' => ∃ a H₁ b, f.ev F H l = some (a, H₁) ∧ f.ev F H₁ r = some (b, H') ∧ compare H' op a b = some v) e fun h => ⟨a, H₁, b, h1, h2, h⟩
theorem noMarks {op : CmpOp} {E : Expr} {e : AX} (h : Cv ns E e) : behindInMarks op E = false := by
  obtain ⟨m, h⟩ := h.out
  cases E <;> first | rfl | exact no_el h
theorem ev_cmp (C : COk cx) (L : Leaf cx θ) (h8 : 8 ≤ n) (hA : AOk A n) (ev : EvOk cx θ f n) (Fr : Frm θ cx env ns F ρ s) (S : St cx θ ρ H s) {l r : Expr} {l' r' : AX} {op : CmpOp} {cop : COp} {pos : Pos} (hl : Cv ns l l') (hr : Cv ns r r') (ho : copOf op = some cop)
    (e : evCmp f F H l' cop r' = some (v, H')) : Tri cx A (eval (.Compare l [op] [r] pos) env) s (Res cx θ ρ s H' v) := by
  obtain ⟨a, H₁, b, h1, h2, h3⟩ := evCmp_out e
  refine wpAny_Compare1 (Tri.mono (ev hA Fr S hl h1) fun x s₁ ⟨ρ₁, l₁, S₁, v₁⟩ => Tri.mono (ev hA (Fr.step0 C l₁) S₁ hr h2) fun y s₂ ⟨ρ₂, l₂, S₂, v₂⟩ => ?_) (noMarks hr)
  exact Tri.mono (L.cmp (hA.le h8) S₂ (l₂.vrel v₁) v₂ ho h3) fun z s₃ r₃ => r₃.step (l₁.trans l₂)

theorem ev_not (L : Leaf cx θ) (h8 : 8 ≤ n) (hA : AOk A n) (ev : EvOk cx θ f n) (Fr : Frm θ cx env ns F ρ s) (S : St cx θ ρ H s) {x : Expr} {x' : AX} {pos : Pos} (hx : Cv ns x x')
    (e : evNot f F H x' = some (v, H')) : Tri cx A (eval (.UnaryOp .Not x pos) env) s (Res cx θ ρ s H' v) := by
  refine ob2_el e fun u H₁ h1 e => ?_
  refine ob_el e fun b hb e => ?_
  obtain ⟨rfl, rfl⟩ := sm2 e
  refine wpAny_UnaryOp (Tri.mono (ev hA Fr S hx h1) fun y s₁ ⟨ρ₁, l₁, S₁, v₁⟩ => ?_)
  refine not_value (Tri.mono (L.truth (hA.le h8) S₁ v₁ hb) fun b' s₂ r₂ => ?_)
  exact (r₂.step l₁).imp fun _ q => by rw [q]; rfl

theorem ev_neg (S : St cx θ ρ H s) {x : Expr} {e : AX} {pos : Pos} (hc : cvNeg x = some e) (he : stepEv f F H e = some (v, H')) :
    Tri cx A (eval (.UnaryOp .USub x pos) env) s (Res cx θ ρ s H' v) := by
  cases x with
  | Constant c kd p =>
    cases c with
    | int i =>
      obtain rfl := Option.some.inj hc
      obtain ⟨rfl, rfl⟩ := sm2 he
      exact wpAny_UnaryOp (wpAny_Constant_int (neg_int (.same S rfl rfl rfl ⟨_, _, rfl, rfl⟩)))
    | _ => exact no_el hc
  | _ => exact no_el hc

theorem ev_bool (C : COk cx) (L : Leaf cx θ) (h8 : 8 ≤ n) (hA : AOk A n) (ev : EvOk cx θ f n) (Fr : Frm θ cx env ns F ρ s) (S : St cx θ ρ H s) {op : BoolOp} {Es : List Expr} {es : List AX} {pos : Pos} (h : All2 (Cv ns) Es es)
    (e : evBool f F H (isAndOp op) es = some (v, H')) : Tri cx A (eval (.BoolOp op Es pos) env) s (Res cx θ ρ s H' v) := by
  cases h with
  | nil => exact no_el e
  | cons hx h =>
  cases h with
  | nil => exact no_el e
  | cons hy h =>
  cases h with
  | cons hz h => exact no_el e
  | nil =>
  refine ob2_el e fun u H₁ h1 e => ?_
  refine ob_el e fun b hb e => ?_
  cases op with
  | And =>
    refine wpAny_And2 (Tri.mono (ev hA Fr S hx h1) fun x s₁ ⟨ρ₁, l₁, S₁, v₁⟩ => Tri.mono (L.truth (hA.le h8) S₁ v₁ hb) fun b' s₂ ⟨ρ₂, l₂, S₂, hb'⟩ => ?_)
    subst hb'
    cases b' with
    | true => exact Tri.mono (ev hA (Fr.step0 C (l₁.trans l₂)) S₂ hy e) fun y s₃ r₃ => r₃.step (l₁.trans l₂)
    | false => obtain ⟨rfl, rfl⟩ := sm2 e; exact ⟨ρ₂, l₁.trans l₂, S₂, l₂.vrel v₁⟩
  | Or =>
    refine wpAny_Or2 (Tri.mono (ev hA Fr S hx h1) fun x s₁ ⟨ρ₁, l₁, S₁, v₁⟩ => Tri.mono (L.truth (hA.le h8) S₁ v₁ hb) fun b' s₂ ⟨ρ₂, l₂, S₂, hb'⟩ => ?_)
    subst hb'
    cases b' with
    | false => exact Tri.mono (ev hA (Fr.step0 C (l₁.trans l₂)) S₂ hy e) fun y s₃ r₃ => r₃.step (l₁.trans l₂)
    | true => obtain ⟨rfl, rfl⟩ := sm2 e; exact ⟨ρ₂, l₁.trans l₂, S₂, l₂.vrel v₁⟩

theorem ev_if (C : COk cx) (hA : AOk A n) (ev : EvOk cx θ f n) (tr : TrOk cx θ f n) (Fr : Frm θ cx env ns F ρ s) (S : St cx θ ρ H s) {t b o : Expr} {t' b' o' : AX} {pos : Pos} (ht : Cv ns t t') (hb : Cv ns b b') (ho : Cv ns o o')
    (e : evIf f F H t' b' o' = some (v, H')) : Tri cx A (eval (.IfExp t b o pos) env) s (Res cx θ ρ s H' v) := by
  refine ob2_el e fun c H₁ h1 e => ?_
  refine wpAny_IfExp (Tri.mono (tr hA Fr S ht h1) fun c' s₁ ⟨ρ₁, l₁, S₁, hc⟩ => ?_)
  subst hc
  cases c' with
  | true => exact Tri.mono (ev hA (Fr.step0 C l₁) S₁ hb e) fun y s₃ r₃ => r₃.step l₁
  | false => exact Tri.mono (ev hA (Fr.step0 C l₁) S₁ ho e) fun y s₃ r₃ => r₃.step l₁

theorem ev_list (C : COk cx) (hA : AOk A n) (ev : EvOk cx θ f n) (Fr : Frm θ cx env ns F ρ s) (S : St cx θ ρ H s) {Es : List Expr} {es : List AX} {pos : Pos} (h : All2 (Cv ns) Es es)
    (e : evList f F H es = some (v, H')) : Tri cx A (eval (.List Es pos) env) s (Res cx θ ρ s H' v) := by
  refine ob2_el e fun vs H₁ h1 e => ?_
  obtain ⟨hz, e⟩ := cond_true e
  refine wpAny_List_spliced (Tri.mono (evs_ok C ev hA h Fr S h1) fun ys s₁ ⟨ρ₁, l₁, S₁, v₁⟩ => ⟨by rw [← v₁.length]; exact small_line hz, ?_⟩)
  exact Aft.step l₁ (pushR_ok S₁ e rfl ⟨ys.toArray, _, rfl, v₁⟩)
theorem ev_tup (C : COk cx) (hA : AOk A n) (ev : EvOk cx θ f n) (Fr : Frm θ cx env ns F ρ s) (S : St cx θ ρ H s) {Es : List Expr} {es : List AX} {k : Nat} {pos : Pos} (h : All2 (Cv ns) Es es)
    (e : evTup f F H es = some (v, H')) : Tri cx A (eval (.Tuple Es k pos) env) s (Res cx θ ρ s H' v) := by
  refine ob2_el e fun vs H₁ h1 e => ?_
  obtain ⟨hz, e⟩ := cond_true e
  refine wpAny_Tuple_spliced (Tri.mono (evs_ok C ev hA h Fr S h1) fun ys s₁ ⟨ρ₁, l₁, S₁, v₁⟩ => ⟨by rw [← v₁.length]; exact small_line hz, ?_⟩)
  exact Aft.step l₁ (pushR_ok S₁ e rfl ⟨ys.toArray, _, rfl, v₁⟩)
end
end Mine
namespace Mine
open PySem PySem.W PyProof.Rows PySem.Calls

section
variable {cx : Cx} {θ : Th} {X ρ ρ' : List Addr} {H H' : AH} {s s' s'' : Shared} {A : Around} {env : Env} {ns : Names} {F : AF} {f : Fns} {n : Nat} {v : AV}

theorem part_ok {m : Nat} {lo : Option Expr} {lo' : AX} (hA : AOk A n) (ev : EvOk cx θ f n) (Fr : Frm θ cx env ns F ρ s) (S : St cx θ ρ H s) (h : cvPart (cv m ns) lo = some lo') (e : f.ev F H lo' = some (v, H')) :
    Tri cx A (evalPart lo env) s (Res cx θ ρ s H' v) := by
  cases lo with
  | some E => exact ev hA Fr S ⟨m, h⟩ e
  | none =>
    obtain rfl := Option.some.inj h
    exact ev (E := .Constant .none 0 ⟨0, 0, 0, 0⟩) hA Fr S ⟨1, rfl⟩ e

theorem subscripted_item {i : Expr} {i' : AX} (h : Cv ns i i') (o y : Value) : subscripted i false o y = operate [o, y] (getItem o y) := by
  obtain ⟨m, h⟩ := h.out
  cases i <;> first | rfl | exact no_el h

theorem ev_item (C : COk cx) (L : Leaf cx θ) (h8 : 8 ≤ n) (hA : AOk A n) (ev : EvOk cx θ f n) (Fr : Frm θ cx env ns F ρ s) (S : St cx θ ρ H s) {o i : Expr} {o' i' : AX} {pos : Pos} (ho : Cv ns o o') (hi : Cv ns i i')
    (e : evItem f F H o' i' = some (v, H')) : Tri cx A (eval (.Subscript o i pos) env) s (Res cx θ ρ s H' v) := by
  refine ob2_el e fun u H₁ h1 e => ?_
  refine ob2_el e fun w H₂ h2 e => ?_
  obtain ⟨h3, rfl⟩ := wv_out e
  rw [eval_Subscript]
  refine wpAny_bind (Tri.mono (ev hA Fr S ho h1) fun x s₁ ⟨ρ₁, l₁, S₁, v₁⟩ => wpAny_bind (wpAny_holding (Tri.mono (ev hA (Fr.step0 C l₁) S₁ hi h2) fun y s₂ ⟨ρ₂, l₂, S₂, v₂⟩ => wpAny_bind (wpAny_standAt ?_))))
  refine wpAny_bind (Tri.mono (L.gipI S₂ (l₂.vrel v₁) h3) fun b s₃ hb => ?_)
  obtain ⟨rfl, rfl⟩ := hb
  rw [subscripted_item hi]
  refine wpAny_bind (wpAny_operating (Tri.mono (L.itm (hA.le h8) S₂ (l₂.vrel v₁) v₂ h3) fun z s₄ r₄ => ?_))
  exact wpAny_bind (wpAny_letTemporaryGo (wpAny_pure (r₄.step (l₁.trans l₂))))

theorem ev_slice (C : COk cx) (L : Leaf cx θ) (h8 : 8 ≤ n) (hA : AOk A n) (ev : EvOk cx θ f n) (Fr : Frm θ cx env ns F ρ s) (S : St cx θ ρ H s) {o : Expr} {lo up : Option Expr} {o' lo' up' : AX} {p pos : Pos} {m : Nat} (ho : Cv ns o o')
    (hlo : cvPart (cv m ns) lo = some lo') (hup : cvPart (cv m ns) up = some up')
    (e : evSlice f F H o' lo' up' = some (v, H')) : Tri cx A (eval (.Subscript o (.Slice lo up none p) pos) env) s (Res cx θ ρ s H' v) := by
  refine ob2_el e fun u H₁ h1 e => ?_
  refine ob2_el e fun w H₂ h2 e => ?_
  refine ob2_el e fun z H₃ h3 e => ?_
  rw [eval_Subscript]
  refine wpAny_bind (Tri.mono (ev hA Fr S ho h1) fun x s₁ ⟨ρ₁, l₁, S₁, v₁⟩ => wpAny_bind (wpAny_holding (wpAny_Slice (Tri.mono (part_ok hA ev (Fr.step0 C l₁) S₁ hlo h2) fun y s₂ ⟨ρ₂, l₂, S₂, v₂⟩ =>
    Tri.mono (part_ok hA ev (Fr.step0 C (l₁.trans l₂)) S₂ hup h3) fun q s₃ ⟨ρ₃, l₃, S₃, v₃⟩ => wpAny_pure (wpAny_bind (wpAny_standAt ?_))))))
  have S₄ : St cx θ ρ₃ H₃ { s₃ with heap := s₃.heap.push { cls := .type "slice", data := .fields #[y, q, .none] } } := S₃.frame (fun _ _ e => Heap.get?_push_of_some _ e) S₃.bare (by show _ ≤ (Heap.push _ _).objs.size; rw [Heap.size_push]; exact Nat.le_succ _)
  have l₄ : Lk cx [] ρ₃ s₃ ρ₃ { s₃ with heap := s₃.heap.push { cls := .type "slice", data := .fields #[y, q, .none] } } := Lk.of_all (fun _ _ e => Heap.get?_push_of_some _ e) rfl (by show _ ≤ (Heap.push _ _).objs.size; rw [Heap.size_push]; exact Nat.le_succ _)
  refine wpAny_bind (Tri.mono (L.gipS S₄ (l₃.vrel (l₂.vrel v₁)) e) fun b s₅ hb => ?_)
  obtain ⟨rfl, rfl⟩ := hb
  refine wpAny_bind (wpAny_operating (Tri.mono (L.slc (hA.le h8) S₄ (l₃.vrel (l₂.vrel v₁)) (l₃.vrel v₂) v₃ (Heap.get?_push_size _ rfl) e) fun z s₄ r₄ => ?_))
  exact wpAny_bind (wpAny_letTemporaryGo (wpAny_pure (r₄.step (l₁.trans (l₂.trans (l₃.trans l₄))))))

theorem base_of {o : Expr} {a : Str} {w : Sem Value} (h : notSuper o = true) : attributeBase o a env w = w := by
  cases o with
  | Call fn args kws p =>
    cases fn with
    | Name id q =>
      cases args with
      | nil =>
        cases kws with
        | nil =>
          have : (id != ("super" : Str)) = true := bne_iff_ne.mpr (se_false (not_t h))
          unfold attributeBase
          simp only [this, Bool.true_or, if_true]
        | cons _ _ => rfl
      | cons _ _ => rfl
    | _ => rfl
  | _ => rfl

theorem attrId_out {x : Str} {i : Nat} (h : attrId x = some i) : attrs[i]? = some x := by
  have key : ∀ (l : List Str) (n : Nat), indexOf x n l = some i → ∃ j, i = n + j ∧ l[j]? = some x := by
    intro l
    induction l with
    | nil => intro n e; exact no_el e
    | cons p r ih =>
      intro n e
      refine se_el e (fun h z => ⟨0, z.symm, congrArg some h.symm⟩) fun _ e => ?_
      obtain ⟨j, hi, hj⟩ := ih _ e
      exact ⟨j + 1, hi.trans (depth_up n j), hj⟩
  obtain ⟨j, hi, hj⟩ := key _ _ h
  rw [hi, Nat.zero_add]
  exact hj

theorem ev_attr (L : Leaf cx θ) (h8 : 8 ≤ n) (hA : AOk A n) (ev : EvOk cx θ f n) (Fr : Frm θ cx env ns F ρ s) (S : St cx θ ρ H s) {o : Expr} {o' : AX} {nm : Str} {i : Nat} {pos : Pos} (ho : Cv ns o o') (hs : notSuper o = true) (hi : attrId nm = some i)
    (e : evAttr f F H o' i = some (v, H')) : Tri cx A (eval (.Attribute o nm pos) env) s (Res cx θ ρ s H' v) := by
  refine ob2_el e fun u H₁ h1 e => ?_
  obtain ⟨h3, rfl⟩ := wv_out e
  rw [arm_eval_Attribute, base_of hs]
  refine wpAny_bind (Tri.mono (ev hA Fr S ho h1) fun x s₁ ⟨ρ₁, l₁, S₁, v₁⟩ => wpAny_bind (wpAny_standAt (wpAny_bind (wpAny_holding (Tri.mono (L.att (hA.le h8) S₁ v₁ (attrId_out hi) h3) fun z s₂ r₂ => ?_)))))
  exact wpAny_bind (wpAny_letTemporaryGo (wpAny_pure (r₂.step l₁)))

/-- a function's call -/
theorem call_of {ρ₀ : List Addr} {s₀ : Shared} {a : Nat} {args : List AV} {ys : List Value} (call : CallOk cx θ f n) (hA : AOk A n) (S : St cx θ ρ H s) (h : All2 (VRel θ ρ) args ys) (e : f.call H a args = some (v, H')) (l : Lk cx [] ρ₀ s₀ ρ s) :
    Tri cx A (PySem.call (.ref a) ys []) s (Res cx θ ρ₀ s₀ H' v) := by
  refine wpAny_call (codeAny_mono (call hA S h e) fun r s' q => ?_)
  unfold CallPost at q
  split at q
  · exact q.step l
  · exact q.elim

theorem ev_callT (C : COk cx) (L : Leaf cx θ) (h8 : 8 ≤ n) (hA : AOk A (n + 8)) (ev : EvOk cx θ f n) (call : CallOk cx θ f n) (Fr : Frm θ cx env ns F ρ s) (S : St cx θ ρ H s) {x : Str} {a : Nat} {Es : List Expr} {es : List AX} {np pos : Pos}
    (hg : isGlobal ns x = true) (hd : se x "__debug__" = false) (hx : (x, a) ∈ gtops) (h : All2 (Cv ns) Es es) (e : evCallT f F H a es = some (v, H')) :
    Tri cx A (eval (.Call (.Name x np) Es [] pos) env) s (Res cx θ ρ s H' v) := by
  have hA' : AOk A n := hA.le (Nat.le_add_right n 8)
  refine ob2_el e fun vs H₁ h1 e => ?_
  obtain ⟨hm, hk⟩ := L.gtop hx
  refine wpAny_Call_ofName (global_load C Fr S hg hd hm ?_)
  refine callWith_ev C ev hA' h Fr S h1 hk fun ys ρ₁ s₁ l₁ S₁ v₁ => ?_
  simp only [List.nil_append]
  unfold callTop at e
  cases h94 : Nat.beq a 94 with
  | true =>
    rw [h94] at e
    have := Nat.eq_of_beq_eq_true h94
    subst this
    exact Tri.mono (L.page call hA S₁ v₁ e) fun z s₂ r => r.step l₁
  | false =>
    rw [h94] at e
    cases h178 : Nat.beq a 178 with
    | true =>
      rw [h178] at e
      have := Nat.eq_of_beq_eq_true h178
      subst this
      exact Tri.mono (L.acc (hA'.le h8) S₁ v₁ e) fun z s₂ r => r.step l₁
    | false =>
      rw [h178] at e
      exact call_of call hA' S₁ v₁ e l₁

theorem ev_callB (C : COk cx) (L : Leaf cx θ) (h8 : 8 ≤ n) (hA : AOk A n) (ev : EvOk cx θ f n) (Fr : Frm θ cx env ns F ρ s) (S : St cx θ ρ H s) {x : Str} {b : BF} {Es : List Expr} {es : List AX} {np pos : Pos}
    (hg : isGlobal ns x = true) (hd : se x "__debug__" = false) (hx : (x, b) ∈ gbufs) (h : All2 (Cv ns) Es es) (e : evCallB f F H b es = some (v, H')) :
    Tri cx A (eval (.Call (.Name x np) Es [] pos) env) s (Res cx θ ρ s H' v) := by
  refine ob2_el e fun vs H₁ h1 e => ?_
  obtain ⟨hm, hb⟩ := L.gbuf hx
  refine wpAny_Call_ofName (builtin_load C Fr S hg hd hm hb ?_)
  refine callWith_ev C ev hA h Fr S h1 (fun M h _ => ⟨.machine, .inr (.inl rfl), by cases b <;> exact Looks.of_pure rfl⟩) fun ys ρ₁ s₁ l₁ S₁ v₁ => ?_
  exact Tri.mono (L.bcall (hA.le h8) S₁ v₁ e) fun z s₂ r => r.step l₁

theorem nm_of {l : List (Str × Me)} {p : Me → Bool} {x : Str} {v : Me} {w : Str × Me} (h : (x, v) ∈ l) (hp : p v = true) (hf : l.filter (fun q => p q.2) = [w]) : (x, v) = w := by
  have := List.mem_filter (p := fun q => p q.2) |>.mpr ⟨h, hp⟩
  rw [hf] at this
  exact List.mem_singleton.mp this
theorem sameKind_out {a : Nat} {o : Option Nat} (h : sameKind a o = true) : o = some a := by
  cases o with
  | none => cases h
  | some b => exact congrArg some (beq_t h).symm

/-- what a value is that a method is called on -/
theorem kind_el {kd : Nat} {o : AV} {P : Prop} (hk : kindO H o = some kd) (h0 : ∀ x, o = .str x → kd = 0 → P) (h1 : ∀ k xs, o = .ref k → H.get k = some (.list xs) → kd = 1 → P)
    (h2 : ∀ k d es, o = .ref k → H.get k = some (.page d) → dctOf H d = some es → kd = 2 → P) (h3 : ∀ k d xs es, o = .ref k → H.get k = some (.acc d xs) → dctOf H d = some es → kd = 3 → P) : P := by
  cases o with
  | str x => exact h0 x rfl (Option.some.inj hk).symm
  | ref k =>
    unfold kindO at hk
    dsimp only at hk
    cases hg : H.get k with
    | none => rw [hg] at hk; exact no_el hk
    | some ao =>
      rw [hg] at hk
      cases ao with
      | list xs => exact h1 k xs rfl hg (Option.some.inj hk).symm
      | page d => exact ob_el hk fun es he hk => h2 k d es rfl hg he (Option.some.inj hk).symm
      | acc d xs => exact ob_el hk fun es he hk => h3 k d xs es rfl hg he (Option.some.inj hk).symm
      | _ => exact no_el hk
  | _ => exact no_el hk
theorem byBody_call {kd : Nat} {m : Me} {a : Nat} {o : AV} {vs : List AV} (hk : kindO H o = some kd) (hb : byBody kd m = some a) : methF kd m = .ref a ∧ callMeth f H o m vs = f.call H a (o :: vs) := by
  refine kind_el hk (fun x ho hd => ?_) (fun k xs ho hg hd => ?_) (fun k d es ho hg he hd => ?_) fun k d xs es ho hg he hd => ?_
  · subst hd; cases m <;> exact no_el hb
  · subst hd; cases m <;> exact no_el hb
  · subst ho hd
    unfold callMeth
    dsimp only
    rw [hg]
    cases m with
    | chunk => obtain rfl := Option.some.inj hb; exact ⟨rfl, rfl⟩
    | str_ => obtain rfl := Option.some.inj hb; exact ⟨rfl, rfl⟩
    | newline => obtain rfl := Option.some.inj hb; exact ⟨rfl, rfl⟩
    | _ => exact no_el hb
  · subst ho hd
    unfold callMeth
    dsimp only
    rw [hg]
    cases m with
    | push => obtain rfl := Option.some.inj hb; exact ⟨rfl, rfl⟩
    | popFrom => obtain rfl := Option.some.inj hb; exact ⟨rfl, rfl⟩
    | reset => obtain rfl := Option.some.inj hb; exact ⟨rfl, rfl⟩
    | onlyws => obtain rfl := Option.some.inj hb; exact ⟨rfl, rfl⟩
    | _ => exact no_el hb

theorem ev_callM (C : COk cx) (L : Leaf cx θ) (h8 : 8 ≤ n) (hA : AOk A n) (ev : EvOk cx θ f n) (call : CallOk cx θ f n) (Fr : Frm θ cx env ns F ρ s) (S : St cx θ ρ H s) {o : Expr} {o' : AX} {nm : Str} {m : Me} {Es : List Expr} {es : List AX} {apos pos : Pos}
    (ho : Cv ns o o') (hs : notSuper o = true) (hm : (nm, m) ∈ meths) (hl : Nat.beq apos.endLine pos.line = true) (hz : Nat.blt Es.length 29 = true) (h : All2 (Cv ns) Es es) (e : evCallM f F H o' m es = some (v, H')) :
    Tri cx A (eval (.Call (.Attribute o nm apos) Es [] pos) env) s (Res cx θ ρ s H' v) := by
  have hl' : (apos.endLine == pos.line) = true := beq_iff_eq.mpr (beq_t hl)
  have hform : methodCallForm (Es.length + ([] : List Keyword).length) (backTo pos (starEach Es env)) (backToKw pos (keywordEach [] env)) = true := by
    have h1 := noStars (pos := pos) (env := env) h
    have h2 : (backTo pos (starEach Es env)).all (!·.1) = true := by
      rw [List.all_eq_true]
      intro y hy
      rw [List.any_eq_false] at h1
      simpa using h1 y hy
    have h3 := Nat.blt_eq.mp hz
    unfold methodCallForm
    rw [h2]
    show (true && true && decide (Es.length + 0 + 0 < 30)) = true
    exact decide_eq_true (Nat.lt_succ_of_lt h3)
  refine ob2_el e fun u H₁ h1 e => ?_
  refine ob_el e fun kd hk e => ?_
  obtain ⟨hok, e⟩ := cond_true e
  refine ob2_el e fun vs H₂ h2 e => ?_
  obtain ⟨hsk, e⟩ := cond_true e
  rw [arm_eval_Call, base_of hs]
  refine wpAny_bind (Tri.mono (ev hA Fr S ho h1) fun x s₁ ⟨ρ₁, l₁, S₁, v₁⟩ => wpAny_bind (wpAny_standAt ?_))
  unfold methodCall
  rw [hform]
  refine wpAny_bind (wpAny_holding (Tri.mono (L.getM S₁ v₁ hk hok hm) fun r s₂ hr => ?_))
  obtain ⟨rfl, rfl⟩ := hr
  refine wpAny_bind (wpAny_of_eq (a := pos) (by unfold methodCallPos; rw [hl']; rfl) ?_)
  refine callWith_ev C ev hA h (Fr.step0 C l₁) S₁ h2 (L.keepM hok) fun ys ρ₂ s₂ l₂ S₂ v₂ => ?_
  have hk₂ := sameKind_out hsk
  show Tri cx A (PySem.call (methF kd m) (x :: ys) []) s₂ _
  cases hb : byBody kd m with
  | some a =>
    obtain ⟨e1, e2⟩ := byBody_call (f := f) (vs := vs) hk₂ hb
    rw [e1]
    rw [e2] at e
    exact call_of call hA S₂ (.cons (l₂.vrel v₁) v₂) e (l₁.trans l₂)
  | none => exact Tri.mono (L.prim (hA.le h8) S₂ (l₂.vrel v₁) v₂ hk₂ hok hb e) fun z s₃ r => r.step (l₁.trans l₂)

theorem ev_callS (C : COk cx) (L : Leaf cx θ) (hA : AOk A (n + 8)) (ev : EvOk cx θ f n) (call : CallOk cx θ f n) (Fr : Frm θ cx env ns F ρ s) (S : St cx θ ρ H s) {o E : Expr} {o' e' : AX} {nm : Str} {m : Me} {apos pos sp : Pos}
    (ho : Cv ns o o') (hs : notSuper o = true) (hm : (nm, m) ∈ meths) (h : Cv ns E e') (e : evCallS f F H o' m e' = some (v, H')) :
    Tri cx A (eval (.Call (.Attribute o nm apos) [.Starred E sp] [] pos) env) s (Res cx θ ρ s H' v) := by
  have hA' : AOk A n := hA.le (Nat.le_add_right n 8)
  refine ob2_el e fun u H₁ h1 e => ?_
  refine ob_el e fun kd hk e => ?_
  obtain ⟨hok, e⟩ := cond_true e
  refine ob2_el e fun tv H₂ h2 e => ?_
  refine ob_el e fun vs h3 e => ?_
  obtain ⟨hsk, e5⟩ := cond_true e
  have hk₂ := sameKind_out hsk
  obtain ⟨hok1, hok2⟩ := and_t hok
  obtain rfl := beq_t hok1
  obtain ⟨rfl, rfl⟩ := Prod.mk.inj (nm_of (w := ("push", .push)) hm hok2 rfl)
  have e2 := (byBody_call (f := f) (m := .push) (vs := vs) hk₂ rfl).2
  rw [e2] at e5
  rw [arm_eval_Call, base_of hs]
  refine wpAny_bind (Tri.mono (ev hA' Fr S ho h1) fun x s₁ ⟨ρ₁, l₁, S₁, v₁⟩ => wpAny_bind (wpAny_standAt ?_))
  have t := L.star (pos := pos) (t := do let v ← eval E env; standAt pos; pure v) call hA S₁ v₁ hk (fun s₂ l₂ S₂ => wpAny_bind (Tri.mono (ev hA' ((Fr.step0 C l₁).step0 C l₂) S₂ h h2) fun z s₃ r => wpAny_bind (wpAny_standAt (wpAny_pure r)))) hk₂ h3 e5
  unfold methodCall
  have hform : methodCallForm ([Expr.Starred E sp].length + ([] : List Keyword).length) (backTo pos (starEach [.Starred E sp] env)) (backToKw pos (keywordEach [] env)) = false := rfl
  rw [hform]
  refine wpAny_bind (wpAny_holding ?_)
  show Tri cx A (do pure (← getAttr x "push" true, [])) s₁ _
  refine wpAny_bind (Tri.mono t fun z s₂ q => wpAny_pure ?_)
  refine wpAny_bind (wpAny_of_eq (a := pos) rfl ?_)
  exact Tri.mono q fun w s₃ r => r.step l₁
end
end Mine
namespace Mine
open PySem PySem.W PyProof.Rows PySem.Calls

noncomputable def GenR (ns : Names) (g : Comprehension) (a : Nat × AX × List AX) : Prop := ∃ x px it ifs, g = ⟨.Name x px, it, ifs, 0⟩ ∧ slot x 0 ns = some (a.1, .local) ∧ All2 (Cv ns) ifs a.2.2
noncomputable def GenRI (ns : Names) (g : Comprehension) (a : Nat × AX × List AX) : Prop := GenR ns g a ∧ Cv ns g.iter a.2.1

/-- what stands behind a clause's target: the next clause, or the element -/
noncomputable def inner (elt : Expr) (gens : List Comprehension) (scope : Scope) (pos : Pos) (d : Nat) (acc : Value) (env : Env) : Sem Unit := match gens[d]? with
  | some g' => do
    let x ← eval g'.iter env
    let it ← pyIter x
    let _ ← runOwn (.compStart (.ListComp elt gens scope pos) d it acc env) env
  | none => do
    let x ← eval elt env
    let _ ← call (.builtin "list.append") [acc, x]
noncomputable abbrev tests (ifs : List Expr) (env : Env) : Sem Bool := forIn ifs true fun c r => if r = true then do let ok ← isTrue c env (eval c env); pure (ForInStep.yield ok) else pure (ForInStep.yield r)

section
variable {cx : Cx} {θ : Th} {X ρ ρ' : List Addr} {H H' : AH} {s s' s'' : Shared} {A : Around} {env : Env} {ns : Names} {F : AF} {f : Fns} {n : Nat} {v : AV}
theorem compTurn_wp {elt target iter : Expr} {ifs : List Expr} {gens : List Comprehension} {scope : Scope} {pos : Pos} {d : Nat} {it acc : Value} {R : Fin → Shared → Prop} (h : gens[d]? = some ⟨target, iter, ifs, 0⟩)
    (ha : ∀ g', gens[d + 1]? = some g' → g'.is_async = 0 ∧ ∀ x, foldedSetIterable g'.iter env x = pure x) (ht : ∀ v, letOwnedTupleGo target it v = pure ())
    (turn : Tri cx A (pyNext it) s fun r s₁ => match r with
      | none => R (.done .next) s₁
      | some v => Tri cx A (assign target env v) s₁ fun _ s₂ => Tri cx A (tests ifs env) s₂ fun ok s₃ =>
        if ok = true then (match gens[d + 1]? with
          | some g' => Tri cx A (eval g'.iter env) s₃ fun x s₄ => Tri cx A (pyIter x) s₄ fun it' s₅ => Tri cx A (runOwn (.compStart (.ListComp elt gens scope pos) (d + 1) it' acc env) env) s₅ fun _ s₆ => R (.again (.compLoop (.ListComp elt gens scope pos) d it acc env)) s₆
          | none => Tri cx A (eval elt env) s₃ fun x s₄ => Tri cx A (call (.builtin "list.append") [acc, x]) s₄ fun _ s₅ => R (.again (.compLoop (.ListComp elt gens scope pos) d it acc env)) s₅)
        else R (.again (.compLoop (.ListComp elt gens scope pos) d it acc env)) s₃) :
    Tri cx A (compTurn (.ListComp elt gens scope pos) d it acc env) s R := by
  unfold compTurn
  simp only [h, bne_self_eq_false, Bool.false_eq_true, if_false]
  refine wpAny_bind (wpAny_standAt (wpAny_bind (Tri.mono turn fun r s₁ h₁ => ?_)))
  cases r with
  | none => exact wpAny_pure h₁
  | some v =>
    refine wpAny_bind (wpAny_of_eq (ht v) ?_)
    refine wpAny_bind (Tri.mono h₁ fun _ s₂ h₂ => wpAny_bind (Tri.mono h₂ fun ok s₃ h₃ => ?_))
    cases ok with
    | false => exact wpAny_pure h₃
    | true =>
      simp only [if_true] at h₃ ⊢
      cases hg : gens[d + 1]? with
      | some g' =>
        simp only [hg] at h₃
        obtain ⟨h0, hs⟩ := ha g' hg
        simp only [h0, bne_self_eq_false, Bool.false_eq_true, if_false]
        refine wpAny_bind (Tri.mono h₃ fun x s₄ h₄ => wpAny_bind (wpAny_standAt (wpAny_bind (wpAny_of_eq (hs x) (wpAny_bind (wpAny_holding (Tri.mono h₄ fun it' s₅ h₅ => ?_)))))))
        exact wpAny_bind (Tri.mono h₅ fun _ s₆ h₆ => wpAny_pure h₆)
      | none =>
        simp only [hg] at h₃
        exact wpAny_bind (wpAny_bind (Tri.mono h₃ fun x s₄ h₄ => wpAny_bind (Tri.mono h₄ fun _ s₅ h₅ => wpAny_pure (wpAny_pure h₅))))

/-! what is no range -/
noncomputable def isRng (e : AX) : Bool := match e with
  | .rng _ => true
  | _ => false
noncomputable def notR (e : AX) : Bool := !isRng e
noncomputable def plainX (e : AX) : Bool := match e with
  | .bool .. => false
  | .not .. => false
  | .cmp .. => false
  | .ite .. => false
  | _ => true
noncomputable def both (e : AX) : Bool := notR e && plainX e
/-- all that a conversion may give is so -/
noncomputable def PX (g : AX → Bool) (o : Option AX) : Prop := ∀ e, o = some e → g e = true
section
variable {g : AX → Bool} {α β : Type} {c : Bool} {x y : Option AX}
theorem PX.no : PX g none := fun _ h => nomatch h
theorem PX.so {e : AX} (h : g e = true) : PX g (some e) := fun _ z => Option.some.inj z ▸ h
theorem PX.ob {o : Option α} {k : α → Option AX} (h : ∀ a, PX g (k a)) : PX g (Mine.ob o k) := fun e z => ob_el z fun a _ z => h a e z
theorem PX.ob2 {o : Option (α × β)} {k : α → β → Option AX} (h : ∀ a b, PX g (k a b)) : PX g (Mine.ob2 o k) := fun e z => ob2_el z fun a b _ z => h a b e z
theorem PX.cnd (h : PX g x) : PX g (cond c x none) := fun e z => cnd_el z fun _ z => h e z
theorem PX.cnd2 (h : PX g x) (h' : PX g y) : PX g (cond c x y) := by cases c with | true => exact h | false => exact h'
theorem PX.r (h : PX both x) : PX notR x := fun e z => (and_t (h e z)).1
theorem PX.p (h : PX both x) : PX plainX x := fun e z => (and_t (h e z)).2
end
noncomputable def isCallE (E : Expr) : Bool := match E with
  | .Call .. => true
  | _ => false
theorem isCallE_out {E : Expr} (h : isCallE E = true) : ∃ fn args kws pos, E = .Call fn args kws pos := by
  cases E with
  | Call fn args kws pos => exact ⟨_, _, _, _, rfl⟩
  | _ => exact ft h
theorem nr_name {x : Str} : PX both (cvName ns x) := .cnd2 .no (.ob2 fun i k => by
  cases k with
  | «local» => exact .so rfl
  | cell => exact .so rfl
  | free => exact .cnd2 .no (.so rfl)
  | globalImplicit => exact .ob fun _ => .so rfl
  | _ => exact .no)
theorem nr_neg {x : Expr} : PX both (cvNeg x) := by
  cases x with
  | Constant c _ _ =>
    cases c with
    | int i => exact .so rfl
    | _ => exact .no
  | _ => exact .no
theorem nr_un {g : Expr → Option AX} {op : UnaryOp} {x : Expr} : PX notR (cvUn g op x) := by
  cases op with
  | USub => exact nr_neg.r
  | Not => exact .ob fun _ => .so rfl
  | _ => exact .no
theorem nr_cmp {g : Expr → Option AX} {l : Expr} {ops : List CmpOp} {rs : List Expr} : PX notR (cvCmp g l ops rs) := by
  cases ops with
  | nil => exact .no
  | cons op ops =>
    cases ops with
    | cons _ _ => exact .no
    | nil =>
      cases rs with
      | nil => exact .no
      | cons r rs =>
        cases rs with
        | cons _ _ => exact .no
        | nil => exact .ob fun _ => .ob fun _ => .ob fun _ => .so rfl
theorem nr_sub {g : Expr → Option AX} {v i : Expr} : PX both (cvSub g v i) := .ob fun _ => by
  cases i with
  | Slice lo up st _ =>
    cases st with
    | none => exact .ob fun _ => .ob fun _ => .so rfl
    | some _ => exact .no
  | _ => exact .ob fun _ => .so rfl
noncomputable def headed (E : Expr) : Bool := match E with
  | .Call .. => true
  | .UnaryOp .. => true
  | .BoolOp .. => true
  | .IfExp .. => true
  | .Compare .. => true
  | _ => false
theorem nr_both {c : Names → Expr → Option AX} {E : Expr} (h : headed E = false) : PX both (cvStep c ns E) := by
  cases E with
  | Constant k _ _ => exact .ob fun _ => .so rfl
  | Name x _ => exact nr_name
  | BinOp l op r _ => exact .ob fun _ => .ob fun _ => .ob fun _ => .so rfl
  | Subscript v i _ => exact nr_sub
  | Attribute v n _ => exact .cnd (.ob fun _ => .ob fun _ => .so rfl)
  | List es _ => exact .ob fun _ => .so rfl
  | Tuple es _ _ => exact .ob fun _ => .so rfl
  | ListComp elt gs sc _ => exact .ob fun _ => .ob fun _ => .ob fun _ => .cnd (.so rfl)
  | _ => first | exact .no | exact ft h.symm
theorem nr_step {c : Names → Expr → Option AX} {E : Expr} (h : isCallE E = false) : PX notR (cvStep c ns E) := by
  cases E with
  | Call fn args kws pos => exact ft h.symm
  | UnaryOp op x _ => exact nr_un
  | Compare l ops rs _ => exact nr_cmp
  | BoolOp op es _ => exact .ob fun _ => .so rfl
  | IfExp t b o _ => exact .ob fun _ => .ob fun _ => .ob fun _ => .so rfl
  | _ => exact (nr_both rfl).r
theorem nr_meth {g : Expr → Option AX} {o : Expr} {n : Str} {args : List Expr} : PX both (cvCallM g o n args) := .ob fun _ => .ob fun _ => by
  cases starOf args with
  | some e => exact .ob fun _ => .so rfl
  | none => exact .ob fun _ => .so rfl
theorem plain_callN {g : Expr → Option AX} {x : Str} {args : List Expr} : PX plainX (cvCallN g x args) := .ob fun _ => by
  cases assoc x gtops with
  | some a => exact .so rfl
  | none =>
    cases assoc x gbufs with
    | some b => exact .so rfl
    | none => exact .cnd (.so rfl)
theorem plain_call {g : Expr → Option AX} {pos : Pos} {fn : Expr} {args : List Expr} {kws : List Keyword} : PX plainX (cvCall g ns pos fn args kws) := by
  cases kws with
  | cons _ _ => exact .no
  | nil =>
    cases fn with
    | Name x np => exact .cnd plain_callN
    | Attribute o n p => exact .cnd nr_meth.p
    | _ => exact .no
theorem callN_rng {g : Expr → Option AX} {x : Str} {args : List Expr} {es : List AX} (h : cvCallN g x args = some (.rng es)) : x = "range" ∧ mapO g args = some es := by
  refine ob_el h fun es' hes h => ?_
  cases h1 : assoc x gtops with
  | some a => rw [h1] at h; exact nomatch Option.some.inj h
  | none =>
    rw [h1] at h
    cases h2 : assoc x gbufs with
    | some b => rw [h2] at h; exact nomatch Option.some.inj h
    | none =>
      rw [h2] at h
      refine cnd_el h fun hx h => ?_
      have h := Option.some.inj h
      cases h
      exact ⟨se_iff.mp hx, hes⟩
theorem rng_out {E : Expr} {es : List AX} (h : Cv ns E (.rng es)) : ∃ np Es pos, E = .Call (.Name "range" np) Es [] pos ∧ isGlobal ns "range" = true ∧ All2 (Cv ns) Es es := by
  obtain ⟨m, h⟩ := h.out
  have hE : isCallE E = true := by
    cases hE : isCallE E with
    | true => rfl
    | false => exact ft (nr_step hE _ h)
  obtain ⟨fn, args, kws, pos, rfl⟩ := isCallE_out hE
  cases kws with
  | cons _ _ => exact no_el h
  | nil =>
    cases fn with
    | Name x np =>
      refine cnd_el h fun hc h => ?_
      obtain ⟨rfl, hes⟩ := callN_rng h
      exact ⟨_, _, _, rfl, (and_t (and_t hc).1).1, Cv.list hes⟩
    | Attribute o n p => exact cnd_el h fun _ h => ft (nr_meth.r _ h)
    | _ => exact no_el h

theorem noFold {E : Expr} {e : AX} (h : Cv ns E e) (x : Value) : foldedSetIterable E env x = pure x := by
  obtain ⟨m, h⟩ := h.out
  cases E <;> first | rfl | exact no_el h

/-- what a for runs over: the value, then its iterator -/
theorem iter_ok (C : COk cx) (L : Leaf cx θ) (h8 : 8 ≤ n) (hA : AOk A n) (ev : EvOk cx θ f n) (Fr : Frm θ cx env ns F ρ s) (S : St cx θ ρ H s) {E : Expr} {e : AX} {it : IT} (h : Cv ns E e) (he : iterOf f F H e = some (it, H')) :
    Tri cx A (eval E env) s fun x s₁ => ∀ {A'}, AOk A' 8 → Tri cx A' (pyIter x) s₁ (IterPost cx θ ρ s H' it) := by
  have up : ∀ {ρ₁ : List Addr} {s₁ : Shared} {x : Value} {s₂ : Shared}, Lk cx [] ρ s ρ₁ s₁ → IterPost cx θ ρ₁ s₁ H' it x s₂ → IterPost cx θ ρ s H' it x s₂ :=
    fun l ⟨I, a, b, c⟩ => ⟨I, a, Nat.le_trans l.keep.grow b, c.step l⟩
  have other : ∀ {e : AX}, Cv ns E e → (ob2 (f.ev F H e) fun v H => ob (itersOf H v) fun l => some (l, H)) = some (it, H') → Tri cx A (eval E env) s fun x s₁ => ∀ {A'}, AOk A' 8 → Tri cx A' (pyIter x) s₁ (IterPost cx θ ρ s H' it) := by
    intro e h he
    refine ob2_el he fun v H₁ h1 he => ob_el he fun l h2 he => ?_
    obtain ⟨rfl, rfl⟩ := sm2 he
    exact Tri.mono (ev hA Fr S h h1) fun x s₁ ⟨ρ₁, l₁, S₁, v₁⟩ A' hA' => Tri.mono (L.iter hA' S₁ v₁ h2) fun y s₂ q => up l₁ q
  cases e with
  | rng es =>
    obtain ⟨np, Es, pos, rfl, hg, hes⟩ := rng_out h
    refine ob2_el he fun vs H₁ h1 he => ob_el he fun l h2 he => ?_
    obtain ⟨rfl, rfl⟩ := sm2 he
    refine wpAny_Call_ofName (builtin_load C Fr S hg (by decide +kernel) L.grange.1 L.grange.2 ?_)
    refine callWith_ev C ev hA hes Fr S h1 (fun M h _ => ⟨.machine, .inr (.inl rfl), Looks.of_pure rfl⟩) fun ys ρ₁ s₁ l₁ S₁ v₁ => ?_
    refine Tri.mono (L.range (hA.le h8) S₁ v₁ h2) fun x s₂ r A' hA' => ?_
    obtain ⟨ρ₂, l₂, S₂, q⟩ := r
    exact Tri.mono (q hA') fun y s₃ q => up (l₁.trans l₂) q
  | _ => exact other h he

theorem ItOk.step {I : Addr} {it : IT} (C : COk cx) (i : ItOk cx θ ρ s I it) (l : Lk cx X ρ s ρ' s') (hI : I ∉ X) : ItOk cx θ ρ' s' I it := by
  have hT : I ∉ cx.tabs := fun h => Nat.lt_irrefl _ (Nat.lt_of_lt_of_le (C.tabs _ h) i.old)
  have keep : ∀ o, s.heap.get? I = some o → s'.heap.get? I = some o := fun o e => l.keep.heap _ o e (fun h => (List.mem_append.mp h).elim hI i.nin) hT
  refine ⟨l.nin i.nin i.lt, i.old, Nat.lt_of_lt_of_le i.lt l.keep.grow, ?_⟩
  have r := i.rel
  cases it with
  | items xs =>
    rcases r with ⟨a, m, h, e⟩ | ⟨a, m, h, e⟩ | ⟨ty, x, t, j, hty, ⟨o, ho, r⟩, e⟩
    · exact .inl ⟨a, m, keep _ h, e⟩
    · exact .inr (.inl ⟨a, m, keep _ h, e⟩)
    · exact .inr (.inr ⟨ty, x, t, j, hty, ⟨o, keep _ ho, r⟩, e⟩)
  | lst k j =>
    obtain ⟨a, ha, o, ho, r⟩ := r
    exact ⟨a, l.at ha, o, keep _ ho, r⟩
/-- an iterator is no frame -/
theorem ItOk.ne {I L : Addr} {it : IT} {m : Str → Option Value} (i : ItOk cx θ ρ s I it) (h : s.heap.Ns L m) : I ≠ L := by
  rintro rfl
  obtain ⟨o, es, ep, ho, hd, _⟩ := h
  have r := i.rel
  cases it with
  | items xs =>
    rcases r with ⟨a, m, h, e⟩ | ⟨a, m, h, e⟩ | ⟨ty, x, t, j, hty, ⟨o', ho', hc, hd'⟩, e⟩
    · have := Option.some.inj (ho.symm.trans h); subst this; cases hd
    · have := Option.some.inj (ho.symm.trans h); subst this; cases hd
    · rw [ho] at ho'; cases ho'; rw [hd] at hd'; cases hd'
  | lst k j =>
    obtain ⟨a, ha, o', ho', hc, hd'⟩ := r
    rw [ho] at ho'; cases ho'; rw [hd] at hd'; cases hd'
end

section
variable (cx : Cx) (θ : Th)
noncomputable def InnerW (A : Around) (elt : Expr) (gens : List Comprehension) (scope : Scope) (pos : Pos) (d : Nat) (acc : Value) (env : Env) (s : Shared) (P : Shared → Prop) : Prop := match gens[d]? with
  | some g' => Tri cx A (eval g'.iter env) s fun x s₄ => Tri cx A (pyIter x) s₄ fun it' s₅ => Tri cx A (runOwn (.compStart (.ListComp elt gens scope pos) d it' acc env) env) s₅ fun _ s₆ => P s₆
  | none => Tri cx A (eval elt env) s fun x s₄ => Tri cx A (call (.builtin "list.append") [acc, x]) s₄ fun _ s₅ => P s₅
noncomputable def CompOk (f : Fns) (n : Nat) : Prop := ∀ {A : Around} {env : Env} {ns : Names} {F : AF} {ρ : List Addr} {H : AH} {s : Shared} {elt : Expr} {elt' : AX} {gens : List Comprehension} {scope : Scope} {pos : Pos} {d : Nat} {gs : List (Nat × AX × List AX)} {acc : Nat} {D : Addr} {H' : AH},
  AOk A n → Frm θ cx env ns F ρ s → St cx θ ρ H s → Cv ns elt elt' → ρ[acc]? = some D → All2 (GenRI ns) (gens.drop d) gs → f.comp F H acc elt' gs = some H' →
    InnerW cx A elt gens scope pos d (.ref D) env s fun s' => Aft cx θ [env.locals] ρ s H' (fun ρ' => Frm θ cx env ns F ρ' s') s'
noncomputable def ItemsOk (f : Fns) (n : Nat) : Prop := ∀ {A : Around} {env : Env} {ns : Names} {F : AF} {ρ : List Addr} {H : AH} {s : Shared} {elt : Expr} {elt' : AX} {gens : List Comprehension} {scope : Scope} {pos : Pos} {d : Nat} {g : Comprehension} {i : Nat} {x : AX} {ifs : List AX} {gs : List (Nat × AX × List AX)} {acc : Nat} {D I : Addr} {it : IT} {H' : AH},
  AOk A n → Frm θ cx env ns F ρ s → St cx θ ρ H s → Cv ns elt elt' → ρ[acc]? = some D → gens[d]? = some g → GenR ns g (i, x, ifs) → All2 (GenRI ns) (gens.drop (d + 1)) gs → ItOk cx θ ρ s I it → f.items F H acc elt' i ifs gs it = some H' →
    codeAny (model cx.prog cx.w) A (.compLoop (.ListComp elt gens scope pos) d (.ref I) (.ref D) env) (fun r s' => (∃ fl, r = .ok fl) ∧ Aft cx θ [env.locals, I] ρ s H' (fun ρ' => Frm θ cx env ns F ρ' s') s') s
end

section
variable {cx : Cx} {θ : Th} {X ρ ρ' : List Addr} {H H' : AH} {s s' s'' : Shared} {A : Around} {env : Env} {ns : Names} {F : AF} {f : Fns} {n : Nat} {v : AV}
theorem compStart_at {elt : Expr} {gens : List Comprehension} {scope : Scope} {pos : Pos} {d : Nat} {it acc : Value} {g : Comprehension} {R : Result → Shared → Prop} (hg : gens[d]? = some g) (h0 : g.is_async = 0)
    (hi : codeAny (model cx.prog cx.w) A (.compLoop (.ListComp elt gens scope pos) d it acc env) R s) (h : Tri cx A (pyIter it) s fun x s' => x = it ∧ s' = s) :
    codeAny (model cx.prog cx.w) A (.compStart (.ListComp elt gens scope pos) d it acc env) R s := by
  refine codeAny_of_tree ?_
  show wpAny _ A ((compStart (.ListComp elt gens scope pos) d it acc env).onRaise (fun x => do noteFrame x env; standAt theWindowsPlace)) _ _ s
  refine wpAny_notedAt ?_
  unfold compStart
  simp only [show clausesOf (.ListComp elt gens scope pos) = gens from rfl, hg, Option.elim, h0, bne_self_eq_false, Bool.false_eq_true, if_false]
  refine wpAny_bind (wpAny_askSetting (wpAny_ite ?_))
  split
  · first
      | exact wpAny_bind (wpAny_pure (wpAny_pure (And.intro rfl hi)))
      | exact wpAny_pure (And.intro rfl hi)
  · refine wpAny_bind (wpAny_rule (wpAny_bind (wpAny_standAt (wpAny_bind (wpAny_mono h (fun it' s' h' => ?_) fun _ _ e => e.elim)))))
    obtain ⟨rfl, rfl⟩ := h'
    exact wpAny_pure (And.intro rfl hi)
theorem compLoop_once {elt : Expr} {gens : List Comprehension} {scope : Scope} {pos : Pos} {d : Nat} {it acc : Value} {R : Result → Shared → Prop}
    (h : Tri cx A (compTurn (.ListComp elt gens scope pos) d it acc env) s fun fin s' => match fin with | .done f => R (.ok f) s' | .again c' => c'.quiet = true ∧ codeAny (model cx.prog cx.w) A c' R s') :
    codeAny (model cx.prog cx.w) A (.compLoop (.ListComp elt gens scope pos) d it acc env) R s := by
  refine codeAny_of_tree ?_
  show wpAny _ A ((compTurn (.ListComp elt gens scope pos) d it acc env).onRaise (fun x => do noteFrame x env; theTreesLotGoes x)) _ _ s
  exact wpAny_noted (wpAny_mono h (fun _ _ q => q) fun _ _ e => e.elim)
end
end Mine
namespace Mine
open PySem PySem.W PyProof.Rows PySem.Calls
section
variable {cx : Cx} {θ : Th} {X ρ ρ' : List Addr} {H H' : AH} {s s' s'' : Shared} {A : Around} {env : Env} {ns : Names} {F : AF} {f : Fns} {n : Nat} {v : AV}

theorem Frm.forget {i : Nat} {v : AV} (hi : i + 1 < 2 ^ 10) (h : F.loc.get i = none) (Fr : Frm θ cx env ns (F.store i v) ρ s) : Frm θ cx env ns F ρ s := by
  refine ⟨Fr.kind, Fr.names, Fr.few, Fr.glob, Fr.blt, Fr.nin, Fr.old, ?_, Fr.cel⟩
  obtain ⟨m, hn, hl⟩ := Fr.loc
  refine ⟨m, hn, fun x j u hx hj => hl x j u hx ?_⟩
  rw [AF.get_store hi]
  by_cases e : j = i
  · rw [e, h] at hj; exact no_el hj
  · rw [if_neg e]; exact hj

theorem kind_list {k : Nat} {xs : List AV} (h : H.get k = some (.list xs)) : kindO H (.ref k) = some 1 := by unfold kindO; dsimp only; rw [h]
theorem meth_list {k : Nat} {xs vs : List AV} {m : Me} (h : H.get k = some (.list xs)) : callMeth f H (.ref k) m vs = listMeth H k xs m vs := by unfold callMeth; dsimp only; rw [h]
theorem append_ok (L : Leaf cx θ) (h8 : 8 ≤ n) (hA : AOk A n) (S : St cx θ ρ H s) {k : Nat} {D : Addr} {x : Value} (hD : ρ[k]? = some D) (hv : VRel θ ρ v x) (e : addTo H k v = some H') :
    Tri cx A (call (.builtin "list.append") [.ref D, x]) s fun _ s' => Aft cx θ [] ρ s H' (fun _ => True) s' := by
  unfold addTo at e
  cases hg : H.get k with
  | none => rw [hg] at e; exact no_el e
  | some o =>
    rw [hg] at e
    cases o with
    | list xs =>
      obtain ⟨hz, rfl⟩ := cond_some e
      refine Tri.mono (L.prim (f := botF) (kd := 1) (n := .append) (o := .ref k) (vs := [v]) (ys := [x]) (v := .none) (H' := H.set k (.list (xs ++ [v]))) (hA.le h8) S ⟨D, hD, rfl⟩ (.cons hv .nil) ?_ rfl rfl ?_) fun _ s' r => r.imp fun _ _ => trivial
      · exact kind_list hg
      · rw [meth_list hg]
        show cond _ _ _ = _
        rw [hz]; rfl
    | _ => exact no_el e

theorem drop_nil {α : Type} {l : List α} {d : Nat} (h : l.drop d = []) : l[d]? = none := List.getElem?_eq_none (List.drop_eq_nil_iff.mp h)
theorem drop_cons {α : Type} {l r : List α} {a : α} {d : Nat} (h : l.drop d = a :: r) : l[d]? = some a ∧ l.drop (d + 1) = r := by
  have h1 := congrArg (·[0]?) h
  have h2 := congrArg (List.drop 1) h
  rw [List.drop_drop] at h2
  exact ⟨by rw [← Nat.add_zero d, ← List.getElem?_drop]; exact h1, h2⟩
theorem comp_step (C : COk cx) (L : Leaf cx θ) (h8 : 8 ≤ n) (ev : EvOk cx θ f n) (items : ItemsOk cx θ f n) {A : Around} {env : Env} {ns : Names} {F : AF} {ρ : List Addr} {H : AH} {s : Shared} {elt : Expr} {elt' : AX} {gens : List Comprehension} {scope : Scope} {pos : Pos} {d : Nat}
    {gs : List (Nat × AX × List AX)} {acc : Nat} {D : Addr} {H' : AH} (hA : AOk A n) (Fr : Frm θ cx env ns F ρ s) (S : St cx θ ρ H s) (he : Cv ns elt elt') (hD : ρ[acc]? = some D) (hg : All2 (GenRI ns) (gens.drop d) gs) (e : stepComp f F H acc elt' gs = some H') :
    InnerW cx A elt gens scope pos d (.ref D) env s fun s' => Aft cx θ [env.locals] ρ s H' (fun ρ' => Frm θ cx env ns F ρ' s') s' := by
  unfold InnerW
  generalize hgd : gens.drop d = gd at hg
  cases hg with
  | nil =>
    rw [drop_nil hgd]
    refine ob2_el e fun u H₁ h1 e => ?_
    refine Tri.mono (ev hA Fr S he h1) fun x s₁ ⟨ρ₁, l₁, S₁, v₁⟩ => Tri.mono (append_ok L h8 hA S₁ (l₁.at hD) v₁ e) fun _ s₂ ⟨ρ₂, l₂, S₂, _⟩ => ?_
    exact ⟨ρ₂, (l₁.trans l₂).wide0, S₂, (Fr.step0 C l₁).step0 C l₂⟩
  | cons hg hr =>
    rename_i g a rest gs'
    obtain ⟨hd, hrest⟩ := drop_cons hgd
    rw [hd]
    refine ob2_el e fun it H₁ h1 e => ?_
    obtain ⟨hg, hit⟩ := hg
    refine Tri.mono (iter_ok C L h8 hA ev Fr S hit h1) fun x s₁ q => Tri.mono (q (hA.le h8)) fun y s₂ q => ?_
    obtain ⟨I, rfl, hI, ρ₂, l₂, S₂, i₂⟩ := q
    have Fr₂ := Fr.step0 C l₂
    have run := items (scope := scope) (pos := pos) hA Fr₂ S₂ he (l₂.at hD) hd hg (hrest ▸ hr) i₂ e
    refine wpAny_runOwn ?_
    rw [hA.mark]
    refine compStart_at hd (by obtain ⟨_, _, _, _, rfl, _⟩ := hg; rfl) (codeAny_mono run fun r s' q => ?_) (L.iterI (hA.le h8) S₂ i₂)
    obtain ⟨⟨fl, rfl⟩, ρ₃, l₃, S₃, Fr₃⟩ := q
    refine ⟨ρ₃, ?_, S₃, Fr₃⟩
    have l₂' : Lk cx [env.locals, I] ρ s ρ₂ s₂ := l₂.wide0
    refine (l₂'.trans l₃).less fun z hz => ?_
    rcases List.mem_cons.mp hz with rfl | hz
    · exact .inl (.head _)
    · rcases List.mem_cons.mp hz with rfl | hz
      · exact .inr hI
      · cases hz

theorem tests_ok (C : COk cx) {A : Around} {env : Env} {ns : Names} {F : AF} (tr : TrOk cx θ f n) (hA : AOk A n) : ∀ {ifs : List Expr} {ifs' : List AX} {ρ : List Addr} {H H' : AH} {s : Shared} {b : Bool}, All2 (Cv ns) ifs ifs' → Frm θ cx env ns F ρ s → St cx θ ρ H s →
    testAll f F H ifs' = some (b, H') → Tri cx A (tests ifs env) s fun b' s' => b' = b ∧ Aft cx θ [] ρ s H' (fun _ => True) s' := by
  have skip : ∀ {ifs : List Expr} {s : Shared} {P : Bool → Shared → Prop}, P false s → Tri cx A (forIn ifs false fun c r => if r = true then do let ok ← isTrue c env (eval c env); pure (ForInStep.yield ok) else pure (ForInStep.yield r)) s P := by
    intro ifs
    induction ifs with
    | nil => intro s P h; exact wpAny_pure h
    | cons c r ih =>
      intro s P h
      rw [List.forIn_cons]
      exact wpAny_bind (wpAny_pure (ih h))
  intro ifs ifs' ρ H H' s b h
  induction h generalizing ρ H s with
  | nil => intro Fr S e; obtain ⟨rfl, rfl⟩ := sm2 e; exact wpAny_pure ⟨rfl, .here S trivial⟩
  | cons hc hr ih =>
    intro Fr S e
    refine ob2_el e fun b₁ H₁ h1 e => ?_
    show Tri cx A (forIn (_ :: _) true _) s _
    rw [List.forIn_cons]
    simp only [if_true]
    refine wpAny_bind (wpAny_bind (Tri.mono (tr hA Fr S hc h1) fun b' s₁ ⟨ρ₁, l₁, S₁, hb⟩ => wpAny_pure ?_))
    subst hb
    cases b' with
    | true => exact Tri.mono (ih (Fr.step0 C l₁) S₁ e) fun b₂ s₂ ⟨hb, r⟩ => ⟨hb, r.step l₁⟩
    | false => obtain ⟨rfl, rfl⟩ := sm2 e; exact skip ⟨rfl, ρ₁, l₁, S₁, trivial⟩

theorem items_step (C : COk cx) (L : Leaf cx θ) (h8 : 8 ≤ n) (tr : TrOk cx θ f n) (comp : CompOk cx θ f n) (items : ItemsOk cx θ f n) {A : Around} {env : Env} {ns : Names} {F : AF} {ρ : List Addr} {H : AH} {s : Shared} {elt : Expr} {elt' : AX} {gens : List Comprehension} {scope : Scope} {pos : Pos} {d : Nat}
    {g : Comprehension} {i : Nat} {x : AX} {ifs : List AX} {gs : List (Nat × AX × List AX)} {acc : Nat} {D I : Addr} {it : IT} {H' : AH}
    (hA : AOk A n) (Fr : Frm θ cx env ns F ρ s) (S : St cx θ ρ H s) (he : Cv ns elt elt') (hD : ρ[acc]? = some D) (hd : gens[d]? = some g) (hg : GenR ns g (i, x, ifs)) (hr : All2 (GenRI ns) (gens.drop (d + 1)) gs) (hi : ItOk cx θ ρ s I it)
    (e : stepItems f F H acc elt' i ifs gs it = some H') :
    codeAny (model cx.prog cx.w) A (.compLoop (.ListComp elt gens scope pos) d (.ref I) (.ref D) env) (fun r s' => (∃ fl, r = .ok fl) ∧ Aft cx θ [env.locals, I] ρ s H' (fun ρ' => Frm θ cx env ns F ρ' s') s') s := by
  suffices key : ∀ Q : Result → Shared → Prop, (∀ fl s', Aft cx θ [env.locals, I] ρ s H' (fun ρ' => Frm θ cx env ns F ρ' s') s' → Q (.ok fl) s') → codeAny (model cx.prog cx.w) A (.compLoop (.ListComp elt gens scope pos) d (.ref I) (.ref D) env) Q s from key _ fun fl _ h => ⟨⟨fl, rfl⟩, h⟩
  intro Q hQ
  obtain ⟨nm, px, iter, ifs₀, rfl, hslot, hifs⟩ := hg
  have hIL : I ≠ env.locals := let ⟨m, hn, _⟩ := Fr.loc; hi.ne hn
  refine compLoop_once (compTurn_wp hd (fun g' hg' => ?_) (fun _ => rfl) ?_)
  · generalize hgd : gens.drop (d + 1) = gd at hr
    cases hr with
    | nil => exact no_el ((drop_nil hgd).symm.trans hg')
    | cons hg hr =>
      obtain rfl := Option.some.inj ((drop_cons hgd).1.symm.trans hg')
      obtain ⟨⟨_, _, _, _, rfl, _⟩, hit⟩ := hg
      exact ⟨rfl, fun x => noFold hit x⟩
  unfold stepItems at e
  split at e
  · -- the end
    rename_i hnx
    cases e
    refine Tri.mono (L.next (hA.le h8) S hi hnx) fun r s₁ ⟨ρ₁, l₁, S₁, hr₁⟩ => ?_
    have hr₁ : r = none := hr₁
    subst hr₁
    exact hQ _ _ ⟨ρ₁, l₁.wide (Y := [env.locals, I]) (fun z hz => .tail _ hz), S₁, Fr.step C l₁ (nin1 hIL.symm)⟩
  · rename_i p hnx
    obtain ⟨hno, e⟩ := cond_true e
    have hno : F.loc.get i = none := by
      unfold noneAt at hno
      cases hl : F.loc.get i with
      | none => rfl
      | some _ => rw [hl] at hno; exact ft hno
    refine ob_el e fun H₁ h1 e => ?_
    refine Tri.mono (L.next (hA.le h8) S hi hnx) fun r s₁ ⟨ρ₁, l₁, S₁, hr₁⟩ => ?_
    obtain ⟨y, rfl, hv, i₁⟩ := hr₁
    have Fr₁ := Fr.step C l₁ (nin1 hIL.symm)
    have hi10 : i + 1 < 2 ^ 10 := Nat.lt_of_le_of_lt (Nat.succ_le_succ (Nat.le_of_lt (slot_lt hslot))) Fr.few
    refine wpAny_assign_Name (store_ok S₁ Fr₁ hslot hv fun s₂ l₂ S₂ Fr₂ => ?_)
    have i₂ := i₁.step C l₂ (nin1 hIL)
    have l₁' : Lk cx [env.locals, I] ρ s ρ₁ s₁ := l₁.wide fun z hz => .tail _ hz
    have l₂' : Lk cx [env.locals, I] ρ₁ s₁ ρ₁ s₂ := l₂.wide fun z hz => mem_l hz
    have again : ∀ {ρ₃ s₃}, Lk cx [env.locals] ρ₁ s₂ ρ₃ s₃ → St cx θ ρ₃ H₁ s₃ → Frm θ cx env ns (F.store i p.1) ρ₃ s₃ →
        codeAny (model cx.prog cx.w) A (.compLoop (.ListComp elt gens scope pos) d (.ref I) (.ref D) env) Q s₃ := by
      intro ρ₃ s₃ l₃ S₃ Fr₃
      have l₃' : Lk cx [env.locals, I] ρ₁ s₂ ρ₃ s₃ := l₃.wide fun z hz => mem_l hz
      have lall := l₁'.trans (l₂'.trans l₃')
      refine codeAny_mono (items (x := x) hA (Fr₃.forget hi10 hno) S₃ he (lall.at hD) hd ⟨nm, px, iter, ifs₀, rfl, hslot, hifs⟩ hr (i₂.step C l₃ (nin1 hIL)) e) fun r s' ⟨⟨fl, e⟩, r⟩ => e ▸ hQ fl _ (r.step lall)
    refine ob2_el h1 fun b H₂ h2 h1 => ?_
    refine Tri.mono (tests_ok C tr hA hifs Fr₂ S₂ h2) fun ok s₃ ⟨hok, ρ₃, l₃, S₃, _⟩ => ?_
    subst hok
    have Fr₃ := Fr₂.step0 C l₃
    cases ok with
    | false =>
      simp only [Bool.false_eq_true, if_false]
      cases h1
      exact ⟨rfl, again l₃.wide0 S₃ Fr₃⟩
    | true =>
      simp only [if_true]
      have := comp (scope := scope) (pos := pos) (d := d + 1) hA Fr₃ S₃ he (l₃.at (l₁.at hD)) hr h1
      unfold InnerW at this
      have fin : ∀ s₆, Aft cx θ [env.locals] ρ₃ s₃ H₁ (fun ρ' => Frm θ cx env ns (F.store i p.1) ρ' s₆) s₆ → codeAny (model cx.prog cx.w) A (.compLoop (.ListComp elt gens scope pos) d (.ref I) (.ref D) env) Q s₆ :=
        fun s₆ ⟨ρ₆, l₆, S₆, Fr₆⟩ => again (l₃.wide0.trans l₆) S₆ Fr₆
      cases hgd : gens[d + 1]? with
      | some g' =>
        simp only [hgd] at this
        exact Tri.mono this fun x s₄ q => Tri.mono q fun it' s₅ q => Tri.mono q fun _ s₆ q => ⟨rfl, fin s₆ q⟩
      | none =>
        simp only [hgd] at this
        exact Tri.mono this fun x s₄ q => Tri.mono q fun _ s₅ q => ⟨rfl, fin s₅ q⟩
  · cases e
end
end Mine
namespace Mine
open PySem PySem.W PyProof.Rows PySem.Calls

theorem clos_forIn {env : Env} (g : Str × NameKind → List (Str × Addr) → Sem (ForInStep (List (Str × Addr))))
    (hg : ∀ name kind cs, g (name, kind) cs = if kind == .free then (do let c ← cellOf env name; pure (.yield ((name, c) :: cs))) else pure (.yield cs)) (names : Names) :
    ∀ (acc : List (Str × Addr)), (∀ p ∈ names, p.2 = .free → ∃ a, env.cells.lookup p.1 = some a) →
      ∃ cl, forIn names acc g = (pure cl : Sem (List (Str × Addr))) ∧ (∀ x, (x, NameKind.free) ∈ names → cl.lookup x = env.cells.lookup x) ∧ ∀ x, cl.lookup x = env.cells.lookup x ∨ cl.lookup x = acc.lookup x := by
  induction names with
  | nil => exact fun acc _ => ⟨acc, rfl, (fun _ m => nomatch m), fun _ => .inr rfl⟩
  | cons p r ih =>
    obtain ⟨name, kind⟩ := p
    intro acc h
    have hr : ∀ p ∈ r, p.2 = .free → ∃ a, env.cells.lookup p.1 = some a := fun p m => h p (.tail _ m)
    by_cases hk : kind = .free
    · subst hk
      obtain ⟨a, ha⟩ := h (name, .free) (.head _) rfl
      obtain ⟨cl, e, h1, h2⟩ := ih ((name, a) :: acc) hr
      have here : cl.lookup name = env.cells.lookup name := (h2 name).elim id fun q => q.trans (lookup_self.trans ha.symm)
      refine ⟨cl, ?_, fun x m => (List.mem_cons.mp m).elim (fun q => (Prod.mk.inj q).1 ▸ here) (h1 x), fun x => ?_⟩
      · rw [List.forIn_cons, hg, show cellOf env name = pure a by unfold cellOf; rw [ha]]
        exact e
      · by_cases hx : x = name
        · exact .inl (hx ▸ here)
        · exact (h2 x).imp id fun q => q.trans (lookup_of_ne hx)
    · obtain ⟨cl, e, h1, h2⟩ := ih acc hr
      refine ⟨cl, ?_, fun x m => (List.mem_cons.mp m).elim (fun q => absurd (congrArg Prod.snd q).symm hk) (h1 x), h2⟩
      rw [List.forIn_cons, hg, beq_eq_false_iff_ne.mpr hk]
      exact e
theorem clos_ok {env : Env} {scope : Scope} (h : ∀ p ∈ scope.names, p.2 = .free → ∃ a, env.cells.lookup p.1 = some a) : ∃ cl, closureFor scope env = pure cl ∧ ∀ x, (x, NameKind.free) ∈ scope.names → cl.lookup x = env.cells.lookup x := by
  obtain ⟨cl, e, h1, _⟩ := clos_forIn (env := env) (fun x cs => match x with
    | (name, kind) => if (kind == .free) = true then do let c ← cellOf env name; pure (.yield ((name, c) :: cs)) else pure (.yield cs)) (fun name kind cs => rfl) scope.names [] h
  refine ⟨cl, ?_, h1⟩
  exact (congrArg (fun t : Sem (List (Str × Addr)) => t >>= fun r => pure r) e).trans rfl

/-- the free names of a comprehension, found outside -/
structure FreeOk (ns names : Names) (n₀ : Nat) (cs : List (Nat × Nat)) : Prop where
  cell : ∀ p ∈ names, p.2 ≠ .cell
  here : ∀ n i, (n, i) ∈ cs → ∃ x j k, n = n₀ + j ∧ names[j]? = some (x, .free) ∧ slot x 0 ns = some (i, k)
  all : ∀ x, (x, NameKind.free) ∈ names → ∃ n i k, (n, i) ∈ cs ∧ slot x 0 ns = some (i, k)
theorem FreeOk.plain {ns r : Names} {n₀ : Nat} {cs : List (Nat × Nat)} {y : Str} {q : NameKind} (h : FreeOk ns r (n₀ + 1) cs) (h4 : q ≠ .cell) (h5 : q ≠ .free) : FreeOk ns ((y, q) :: r) n₀ cs where
  cell := fun p m => (List.mem_cons.mp m).elim (fun e => e ▸ h4) (h.cell p)
  here := fun n i m => let ⟨x, j, k, a, b, c⟩ := h.here n i m; ⟨x, j + 1, k, a.trans (depth_up n₀ j), b, c⟩
  all := fun x m => (List.mem_cons.mp m).elim (fun e => absurd (congrArg Prod.snd e).symm h5) (h.all x)
theorem FreeOk.add {ns r : Names} {n₀ i : Nat} {cs : List (Nat × Nat)} {y : Str} {k : NameKind} (h : FreeOk ns r (n₀ + 1) cs) (hs : slot y 0 ns = some (i, k)) : FreeOk ns ((y, .free) :: r) n₀ ((n₀, i) :: cs) where
  cell := fun p m => (List.mem_cons.mp m).elim (fun e => e ▸ fun z => nomatch z) (h.cell p)
  here := fun n i' m => (List.mem_cons.mp m).elim (fun e => ⟨y, 0, k, congrArg Prod.fst e, rfl, (Prod.mk.inj e).2 ▸ hs⟩) fun m => let ⟨x, j, k, a, b, c⟩ := h.here n i' m; ⟨x, j + 1, k, a.trans (depth_up n₀ j), b, c⟩
  all := fun x m => (List.mem_cons.mp m).elim (fun e => ⟨n₀, i, k, .head _, (Prod.mk.inj e).1 ▸ hs⟩) fun m => let ⟨n, i', k', a, b⟩ := h.all x m; ⟨n, i', k', .tail _ a, b⟩
theorem cvFree_ok {ns names : Names} : ∀ {n₀ : Nat} {cs : List (Nat × Nat)}, cvFree ns n₀ names = some cs → FreeOk ns names n₀ cs := by
  induction names with
  | nil => exact fun e => Option.some.inj e ▸ ⟨(fun _ m => nomatch m), (fun _ _ m => nomatch m), fun _ m => nomatch m⟩
  | cons p r ih =>
    obtain ⟨y, q⟩ := p
    intro n₀ cs e
    refine ob_el e fun l hl e => ?_
    have h := ih hl
    cases q with
    | free =>
      refine ob2_el e fun i k hs e => ?_
      cases k with
      | cell => exact Option.some.inj e ▸ h.add hs
      | free => exact Option.some.inj e ▸ h.add hs
      | _ => exact no_el e
    | «local» => exact Option.some.inj e ▸ h.plain (fun z => nomatch z) fun z => nomatch z
    | globalImplicit => exact Option.some.inj e ▸ h.plain (fun z => nomatch z) fun z => nomatch z
    | _ => exact no_el e
theorem cvFree_out {ns names : Names} {n₀ : Nat} {cs : List (Nat × Nat)} (e : cvFree ns n₀ names = some cs) :
    (∀ p ∈ names, p.2 ≠ .cell) ∧ (∀ n i, (n, i) ∈ cs → ∃ x j k, n = n₀ + j ∧ names[j]? = some (x, .free) ∧ slot x 0 ns = some (i, k)) ∧ (∀ x, (x, NameKind.free) ∈ names → ∃ n i k, (n, i) ∈ cs ∧ slot x 0 ns = some (i, k)) :=
  ⟨(cvFree_ok e).cell, (cvFree_ok e).here, (cvFree_ok e).all⟩
theorem nat_el {α : Type} {m n : Nat} {a w : α} {o : Option α} {P : Prop} (e : cond (Nat.beq m n) (some a) o = some w) (h : m = n → a = w → P) (h' : o = some w → P) : P := by
  cases hx : Nat.beq m n with
  | true => rw [hx] at e; exact h (beq_t hx) (Option.some.inj e)
  | false => rw [hx] at e; exact h' e
theorem compCells_out {F : AF} {cs : List (Nat × Nat)} : ∀ {cl : List (Nat × Nat)}, compCells F cs = some cl → (∀ n j, celAt n cl = some j → ∃ i, (n, i) ∈ cs ∧ celAt i F.cel = some j) ∧ ∀ n i, (n, i) ∈ cs → ∃ j, celAt i F.cel = some j := by
  induction cs with
  | nil => exact fun e => Option.some.inj e ▸ ⟨(fun _ _ h => no_el h), fun _ _ m => nomatch m⟩
  | cons p r ih =>
    obtain ⟨n₀, i₀⟩ := p
    intro cl e
    refine ob_el e fun k hk e => ob_el e fun l hl e => ?_
    obtain rfl := Option.some.inj e
    obtain ⟨h1, h2⟩ := ih hl
    refine ⟨fun n j h => nat_el h (fun e z => ⟨i₀, e ▸ .head _, z ▸ hk⟩) fun h => let ⟨i, a, b⟩ := h1 n j h; ⟨i, .tail _ a, b⟩, fun n i m => (List.mem_cons.mp m).elim (fun e => ⟨k, (Prod.mk.inj e).2 ▸ hk⟩) (h2 n i)⟩
theorem nameLoc_out {ns : Names} {t : Expr} {i : Nat} (h : nameLoc ns t = some i) : ∃ x px, t = .Name x px ∧ slot x 0 ns = some (i, .local) := by
  cases t with
  | Name x px =>
    refine ob2_el h fun j k hs h => ?_
    cases k with
    | «local» => exact ⟨x, px, rfl, Option.some.inj h ▸ hs⟩
    | _ => exact no_el h
  | _ => exact no_el h
theorem cvGens_out {ns ns' : Names} {m m' : Nat} {g : Comprehension} {gs : List Comprehension} {l : List (Nat × AX × List AX)} (h : cvGens (cv m ns) (cv m' ns') ns' (g :: gs) = some l) :
    ∃ a r, l = a :: r ∧ GenR ns' g a ∧ Cv ns g.iter a.2.1 ∧ cvGens (cv m' ns') (cv m' ns') ns' gs = some r := by
  obtain ⟨t, it, ifs, as⟩ := g
  refine cnd_el h fun h1 h => ob_el h fun i h2 h => ob_el h fun it' h3 h => ob_el h fun ifs' h4 h => ob_el h fun r h5 h => ?_
  obtain rfl := Option.some.inj h
  obtain ⟨x, px, rfl, hs⟩ := nameLoc_out h2
  obtain rfl := ieq_iff.mp h1
  exact ⟨_, _, rfl, ⟨x, px, it, ifs, rfl, hs, Cv.list h4⟩, ⟨m, h3⟩, h5⟩
theorem cvGens_all {ns : Names} {m : Nat} {gs : List Comprehension} : ∀ {l : List (Nat × AX × List AX)}, cvGens (cv m ns) (cv m ns) ns gs = some l → All2 (GenRI ns) gs l := by
  induction gs with
  | nil => exact fun h => Option.some.inj h ▸ .nil
  | cons g gs ih =>
    intro l h
    obtain ⟨a, r, rfl, h1, h2, h3⟩ := cvGens_out h
    exact .cons ⟨h1, h2⟩ (ih h3)
noncomputable def relab (env : Env) (p : Str × NameKind) : Str × NameKind := if (p.2 == NameKind.free && env.scope.kind == .function && env.kindOf p.1 == some .cell) then (p.1, NameKind.cell) else (p.1, p.2)
theorem relab_cases (env : Env) (n : Str) (q : NameKind) : relab env (n, q) = (n, q) ∨ (q = .free ∧ relab env (n, q) = (n, .cell)) := by
  unfold relab
  by_cases hc : (q == NameKind.free && env.scope.kind == .function && env.kindOf n == some .cell) = true
  · exact .inr ⟨beq_iff_eq.mp (and_t (and_t hc).1).1, if_pos hc⟩
  · exact .inl (if_neg hc)
theorem relabel_lookup {env : Env} {x : Str} {k : NameKind} {names : Names} (h : names.lookup x = some k) :
    (names.map fun (n, k) => if (k == NameKind.free && env.scope.kind == .function && env.kindOf n == some .cell) then (n, NameKind.cell) else (n, k)).lookup x = some k ∨
    (k = .free ∧ (names.map fun (n, k) => if (k == NameKind.free && env.scope.kind == .function && env.kindOf n == some .cell) then (n, NameKind.cell) else (n, k)).lookup x = some .cell) := by
  show (names.map (relab env)).lookup x = some k ∨ (k = .free ∧ (names.map (relab env)).lookup x = some .cell)
  induction names with
  | nil => exact no_el h
  | cons p r ih =>
    obtain ⟨n, q⟩ := p
    rw [List.map_cons]
    by_cases hx : x = n
    · subst hx
      obtain rfl := Option.some.inj (lookup_self.symm.trans h)
      exact (relab_cases env x q).imp (fun e => by rw [e]; exact lookup_self) fun e => ⟨e.1, by rw [e.2]; exact lookup_self⟩
    · have ih := ih ((lookup_of_ne hx).symm.trans h)
      have up : ∀ {o}, (r.map (relab env)).lookup x = o → (relab env (n, q) :: r.map (relab env)).lookup x = o := fun {o} e => by
        rcases relab_cases env n q with z | z
        · rw [z]; exact (lookup_of_ne hx).trans e
        · rw [z.2]; exact (lookup_of_ne hx).trans e
      exact ih.imp up fun e => ⟨e.1, up e.2⟩
end Mine
namespace Mine
open PySem PySem.W PyProof.Rows PySem.Calls
section
variable {cx : Cx} {θ : Th} {X ρ ρ' : List Addr} {H H' : AH} {s s' s'' : Shared} {A : Around} {env : Env} {ns : Names} {F : AF} {f : Fns} {n : Nat} {v : AV}

theorem mem_of_slot {x : Str} {k : NameKind} {names : Names} {i : Nat} (h : slot x 0 names = some (i, k)) : (x, k) ∈ names := by
  obtain ⟨_, j, _, hj⟩ := slot_out h
  exact List.mem_of_getElem? hj

theorem isLoc_lk {x : Str} {names : Names} (h : isLoc names x = true) : ∃ i, slot x 0 names = some (i, .local) := by
  unfold isLoc at h
  cases hs : slot x 0 names with
  | none => rw [hs] at h; exact ft h
  | some p =>
    obtain ⟨i, k⟩ := p
    rw [hs] at h
    cases k with
    | «local» => exact ⟨i, rfl⟩
    | _ => exact ft h
theorem locsOk_out {names l : Names} (h : locsOk names l = true) : ∀ x ∈ l, x.2 = .local → names.lookup x.1 = some .local := by
  induction l with
  | nil => exact fun x m => nomatch m
  | cons p r ih =>
    obtain ⟨h1, h2⟩ := and_t h
    intro x m e
    refine (List.mem_cons.mp m).elim (fun q => ?_) fun m => ih h2 x m e
    subst q
    rw [e] at h1
    obtain ⟨i, hi⟩ := isLoc_lk h1
    exact slot_lookup hi
theorem isFn_out' {k : ScopeKind} (h : isFn k = true) : k = .function := by
  cases k with
  | function => rfl
  | _ => exact ft h

/-- the frame of a comprehension -/
theorem comp_frm {scope : Scope} {cs cl : List (Nat × Nat)} {cells : List (Str × Addr)} {L : Addr} {m' : Str → Option Value} {qual : Str} (hk : scope.kind = .function) (hz : scope.names.length < 1000)
    (hcs : cvFree ns 0 scope.names = some cs) (hcl : compCells F cs = some cl) (hce : ∀ x, (x, NameKind.free) ∈ scope.names → cells.lookup x = env.cells.lookup x) (Fr : Frm θ cx env ns F ρ s)
    (hL : L ∉ ρ') (hold : cx.h₁.objs.size ≤ L) (hρ : ∀ (k : Nat) (a : Addr), ρ[k]? = some a → ρ'[k]? = some a) (hn : s'.heap.Ns L m') :
    Frm θ cx { (newEnv scope L env.globals cells qual none .none (some env) builtinsNs) with scope := relabel scope env } scope.names ⟨.nil, cl⟩ ρ' s' := by
  obtain ⟨h1, h2, h3⟩ := cvFree_out hcs
  obtain ⟨h4, h5⟩ := compCells_out hcl
  refine ⟨hk, fun x i k hs => ?_, Nat.lt_trans (Nat.succ_lt_succ hz) (by decide), Fr.glob, Fr.blt, hL, hold, ⟨m', hn, fun x i v _ h => by cases h⟩, fun x i k j hs hj => ?_⟩
  · exact relabel_lookup (env := env) (slot_lookup hs)
  · obtain ⟨i', hm, hj'⟩ := h4 i j hj
    obtain ⟨x', j', k', e1, e2, e3⟩ := h2 i i' hm
    obtain ⟨_, j'', e4, e5⟩ := slot_out hs
    obtain rfl := Nat.add_left_cancel (e1.symm.trans e4)
    obtain rfl : x = x' := (Prod.mk.inj (Option.some.inj (e2.symm.trans e5))).1.symm
    obtain ⟨a, ha, hr⟩ := Fr.cel x i' k' j e3 hj'
    exact ⟨a, (hce x (List.mem_of_getElem? e2)).trans ha, hρ _ _ hr⟩

theorem comp_main (C : COk cx) (L : Leaf cx θ) (h8 : 8 ≤ n) (hA : AOk A n) (ev : EvOk cx θ f n) (items : ItemsOk cx θ f n) (Fr : Frm θ cx env ns F ρ s) (S : St cx θ ρ H s) {m : Nat} {elt : Expr} {gs : List Comprehension} {scope : Scope} {pos : Pos} {e : AX}
    (hc : cvComp (cv m ns) (cv m scope.names) ns elt gs scope = some e) (he : stepEv f F H e = some (v, H')) {use : Option (Value → Sem Unit)} {Q : Value → Shared → Prop}
    (k : ∀ acc C' s' ρ' fl, Lk cx [] ρ s ρ' s' → St cx θ ρ' H' s' → VRel θ ρ' v acc → C' ∉ ρ' → cx.h₁.objs.size ≤ C' → s.heap.objs.size ≤ C' → (∃ m, s'.heap.Ns C' m) → compPost (model cx.prog cx.w) A (fun _ _ => False) use Q acc C' (.ok fl) s') :
    Tri cx A (comprehension (.ListComp elt gs scope pos) scope env (firstIterPos gs pos) (newList []) (firstAsync gs) (firstIter gs env) use) s Q := by
  refine ob_el hc fun elt' he' hc => ob_el hc fun gs' hg' hc => ob_el hc fun cs hcs hc => ?_
  obtain ⟨hcc, rfl⟩ := cond_some hc
  obtain ⟨hcc, hcl'⟩ := and_t hcc
  obtain ⟨hcf, hcz⟩ := and_t hcc
  have hk := isFn_out' hcf
  have hz := Nat.blt_eq.mp hcz
  cases gs with
  | nil => obtain rfl := Option.some.inj hg'; exact no_el he
  | cons g gr =>
  obtain ⟨a, r, rfl, hg, hit, hr⟩ := cvGens_out hg'
  have hr := cvGens_all hr
  refine ob_el he fun cl hcl he => ob2_el he fun it H₁ h1 he => cnd_el he fun hN he => ob_el he fun H₂ h2 he => ?_
  obtain ⟨rfl, rfl⟩ := sm2 he
  have hN := Nat.blt_eq.mp hN
  obtain ⟨h3, h4, h5⟩ := cvFree_out hcs
  obtain ⟨h6, h7⟩ := compCells_out hcl
  obtain ⟨cells, hclos, hce⟩ := clos_ok (env := env) (scope := scope) (fun p hp hfree => by
    obtain ⟨x, q⟩ := p
    have hq : q = .free := hfree
    subst hq
    obtain ⟨n', i, k', a1, a2⟩ := h5 x hp
    obtain ⟨j, hj⟩ := h7 n' i a1
    obtain ⟨b, hb, _⟩ := Fr.cel x i k' j a2 hj
    exact ⟨b, hb⟩)
  have hlocal : ∀ x ∈ scope.names, x.2 = .local → scope.names.lookup x.1 = some .local := fun x hx h => locsOk_out hcl' x hx h
  obtain ⟨nm, px, iter, ifs₀, rfl, hslot, hifs⟩ := id hg
  refine wpAny_comprehension_free (cl := cells) rfl (fun x => noFold hit x) hclos hk hlocal ?_
  refine Tri.mono (iter_ok C L h8 hA ev Fr S hit h1) fun x s₁ q => Tri.mono (q (hA.le h8)) fun y s₂ q => ?_
  obtain ⟨I, rfl, hI, ρ₂, l₂, S₂, i₂⟩ := q
  refine wpAny_newList ?_
  have S₃ : St cx θ (ρ₂ ++ [s₂.heap.objs.size]) (H₁.push (.list [])) { s₂ with heap := s₂.heap.push { cls := .type "list", data := .seq ([] : List Value).toArray } } := S₂.push (Nat.lt_trans (Nat.add_lt_add_right hN 2) (by decide)) rfl ⟨#[], _, rfl, .nil⟩
  have l₃ : Lk cx [] ρ₂ s₂ (ρ₂ ++ [s₂.heap.objs.size]) { s₂ with heap := s₂.heap.push { cls := .type "list", data := .seq ([] : List Value).toArray } } := Lk.push
  generalize ({ s₂ with heap := s₂.heap.push { cls := .type "list", data := .seq ([] : List Value).toArray } } : Shared) = s₃ at S₃ l₃
  refine wpAny_newFunctionEnv h3 (fun x hx => nomatch hx) (fun h' hns hsb => ?_) hk
  have hkeep : ∀ b o, s₃.heap.get? b = some o → h'.get? b = some o := fun b o e => hsb.extBut b o (Nat.ne_of_lt (Heap.lt_size e)) (Heap.get?_push_of_some _ e)
  have hsize : s₃.heap.objs.size ≤ h'.objs.size := by rw [hsb.1, Heap.size_push]; exact Nat.le_succ _
  have S₄ : St cx θ (ρ₂ ++ [s₂.heap.objs.size]) (H₁.push (.list [])) { s₃ with heap := h', toks := s₃.toks + ([] : List (Str × Value)).length } := S₃.frame hkeep S₃.bare hsize
  have l₄ : Lk cx [] (ρ₂ ++ [s₂.heap.objs.size]) s₃ (ρ₂ ++ [s₂.heap.objs.size]) { s₃ with heap := h', toks := s₃.toks + ([] : List (Str × Value)).length } := Lk.of_all hkeep rfl hsize
  have Fr₄ := comp_frm (θ := θ) (ρ' := ρ₂ ++ [s₂.heap.objs.size]) (s' := { s₃ with heap := h', toks := s₃.toks + ([] : List (Str × Value)).length }) (L := s₃.heap.objs.size) (cells := cells) (qual := env.qual) hk hz hcs hcl hce Fr
    (fun hm => Nat.lt_irrefl _ (S₃.lt _ hm)) S₃.size (fun k a hk => l₃.at (l₂.at hk)) hns
  have run := items (scope := scope) (pos := pos) (elt := elt) (D := s₂.heap.objs.size) (acc := H₁.n) (I := I) hA Fr₄ S₄ ⟨m, he'⟩ (by rw [← S₂.len]; exact List.getElem?_concat_length) (gens := ⟨.Name nm px, iter, ifs₀, 0⟩ :: gr) (d := 0) rfl hg hr (((i₂.step C l₃ (fun h => nomatch h)).step C l₄ (fun h => nomatch h))) h2
  refine compStart_at (g := ⟨.Name nm px, iter, ifs₀, 0⟩) rfl rfl (codeAny_mono run fun r s' q => ?_) (L.iterI (hA.le h8) S₄ ((i₂.step C l₃ (fun h => nomatch h)).step C l₄ (fun h => nomatch h)))
  obtain ⟨⟨fl, rfl⟩, ρ₅, l₅, S₅, Fr₅⟩ := q
  have lall : Lk cx [s₃.heap.objs.size, I] ρ s ρ₅ s' := (l₂.wide0.trans (l₃.wide0.trans l₄.wide0)).trans l₅
  have lall : Lk cx [] ρ s ρ₅ s' := lall.less fun z hz => by
    rcases List.mem_cons.mp hz with rfl | hz
    · exact .inr (Nat.le_trans l₂.keep.grow l₃.keep.grow)
    · rcases List.mem_cons.mp hz with rfl | hz
      · exact .inr hI
      · cases hz
  obtain ⟨m', hm', _⟩ := Fr₅.loc
  have := k (.ref s₂.heap.objs.size) s₃.heap.objs.size s' ρ₅ fl lall S₅ ⟨_, l₅.at (l₄.at (by rw [← S₂.len]; exact List.getElem?_concat_length)), rfl⟩ Fr₅.nin S₃.size (Nat.le_trans l₂.keep.grow l₃.keep.grow) ⟨m', hm'⟩
  exact this
end
end Mine
namespace Mine
open PySem PySem.W PyProof.Rows PySem.Calls
section
variable {cx : Cx} {θ : Th} {X ρ ρ' : List Addr} {H H' : AH} {s s' s'' : Shared} {A : Around} {env : Env} {ns : Names} {F : AF} {f : Fns} {n : Nat} {v : AV}

theorem Lk.of_new {C : Addr} {h' : Heap} (hs : Heap.SameBut C s'.heap h') (_hC : s.heap.objs.size ≤ C) (_hn : C ∉ ρ') (_e : s'.os = s'.os) : Lk cx [C] ρ' s' ρ' { s' with heap := h' } :=
  ⟨⟨[], (List.append_nil _).symm, fun _ m => nomatch m⟩, fun b o e n _ => (hs.2 b fun z => n (z ▸ .head _)).trans e, rfl, by show _ ≤ h'.objs.size; rw [hs.1]; exact Nat.le_refl _⟩
theorem tx_self {x : List Nat} (hx : x.all (fun c => Nat.blt c fakeAt) = true) : θ.tx x = ⟨x.toArray⟩ :=
  congrArg (fun l => (⟨l.toArray⟩ : Str)) (map_eq_self fun a ha => if_pos (Nat.blt_eq.mp (List.all_eq_true.mp hx a ha)))
theorem ev_const (S : St cx θ ρ H s) {c : Const} {kd : Nat} {pos : Pos} {u : AV} (hc : constA c = some u) (e : stepEv f F H (.cst u) = some (v, H')) : Tri cx A (eval (.Constant c kd pos) env) s (Res cx θ ρ s H' v) := by
  obtain ⟨rfl, rfl⟩ := sm2 e
  cases c with
  | none => exact wpAny_Constant_none (.here S (Option.some.inj hc ▸ rfl))
  | bool b => exact wpAny_Constant_bool (.here S (Option.some.inj hc ▸ rfl))
  | int i => exact wpAny_Constant_int (.same S rfl rfl rfl (Option.some.inj hc ▸ ⟨_, _, rfl, rfl⟩))
  | str x =>
    obtain ⟨hx, hc⟩ := cond_some hc
    exact wpAny_Constant_str (.same S rfl rfl rfl (hc ▸ ⟨s.toks, by rw [tx_self hx]⟩))
  | _ => exact no_el hc

theorem starOf_out {args : List Expr} {E : Expr} (h : starOf args = some E) : ∃ p, args = [.Starred E p] := by
  cases args with
  | nil => exact no_el h
  | cons a r =>
    cases r with
    | cons _ _ => cases a <;> exact no_el h
    | nil =>
      cases a with
      | Starred e p => exact ⟨p, Option.some.inj h ▸ rfl⟩
      | _ => exact no_el h
theorem ev_call (C : COk cx) (L : Leaf cx θ) (h8 : 8 ≤ n) (ev : EvOk cx θ f n) (call : CallOk cx θ f n) (hA : AOk A (n + 8)) (Fr : Frm θ cx env ns F ρ s) (S : St cx θ ρ H s) {m : Nat} {fn : Expr} {args : List Expr} {kws : List Keyword} {pos : Pos} {e : AX} (hc : cvCall (cv m ns) ns pos fn args kws = some e) (he : stepEv f F H e = some (v, H')) :
    Tri cx A (eval (.Call fn args kws pos) env) s (Res cx θ ρ s H' v) := by
  have hA' : AOk A n := hA.le (Nat.le_add_right n 8)
  cases kws with
  | cons _ _ => exact no_el hc
  | nil =>
    cases fn with
    | Name x np =>
      refine cnd_el hc fun h0 hc => ob_el hc fun es h1 hc => ?_
      obtain ⟨h0, hd⟩ := and_t h0
      have hg := (and_t h0).1
      cases h2 : assoc x gtops with
      | some a =>
        rw [h2] at hc
        obtain rfl := Option.some.inj hc
        exact ev_callT C L h8 hA ev call Fr S hg (not_t hd) (assoc_in h2) (Cv.list h1) he
      | none =>
        rw [h2] at hc
        cases h3 : assoc x gbufs with
        | some b =>
          rw [h3] at hc
          obtain rfl := Option.some.inj hc
          exact ev_callB C L h8 hA' ev Fr S hg (not_t hd) (assoc_in h3) (Cv.list h1) he
        | none =>
          rw [h3] at hc
          obtain ⟨_, rfl⟩ := cond_some hc
          exact no_el he
    | Attribute o nm p =>
      refine cnd_el hc fun h0 hc => ob_el hc fun o' h1 hc => ob_el hc fun me h2 hc => ?_
      obtain ⟨h0, hs⟩ := and_t h0
      obtain ⟨hl, hz⟩ := and_t h0
      cases h3 : starOf args with
      | some E' =>
        rw [h3] at hc
        refine ob_el hc fun e' h4 hc => ?_
        obtain rfl := Option.some.inj hc
        obtain ⟨sp, rfl⟩ := starOf_out h3
        exact ev_callS C L hA ev call Fr S ⟨m, h1⟩ hs (assoc_in h2) ⟨m, h4⟩ he
      | none =>
        rw [h3] at hc
        refine ob_el hc fun es h4 hc => ?_
        obtain rfl := Option.some.inj hc
        exact ev_callM C L h8 hA' ev call Fr S ⟨m, h1⟩ hs (assoc_in h2) hl hz (Cv.list h4) he
    | _ => exact no_el hc
theorem ev_un (L : Leaf cx θ) (h8 : 8 ≤ n) (hA : AOk A n) (ev : EvOk cx θ f n) (Fr : Frm θ cx env ns F ρ s) (S : St cx θ ρ H s) {m : Nat} {op : UnaryOp} {x : Expr} {pos : Pos} {e : AX} (hc : cvUn (cv m ns) op x = some e) (he : stepEv f F H e = some (v, H')) :
    Tri cx A (eval (.UnaryOp op x pos) env) s (Res cx θ ρ s H' v) := by
  cases op with
  | USub => exact ev_neg S hc he
  | Not =>
    refine ob_el hc fun _ h1 hc => ?_
    obtain rfl := Option.some.inj hc
    exact ev_not L h8 hA ev Fr S ⟨m, h1⟩ he
  | _ => exact no_el hc
theorem ev_cmps (C : COk cx) (L : Leaf cx θ) (h8 : 8 ≤ n) (hA : AOk A n) (ev : EvOk cx θ f n) (Fr : Frm θ cx env ns F ρ s) (S : St cx θ ρ H s) {m : Nat} {l : Expr} {ops : List CmpOp} {rs : List Expr} {pos : Pos} {e : AX} (hc : cvCmp (cv m ns) l ops rs = some e) (he : stepEv f F H e = some (v, H')) :
    Tri cx A (eval (.Compare l ops rs pos) env) s (Res cx θ ρ s H' v) := by
  cases ops with
  | nil => exact no_el hc
  | cons op ops =>
    cases ops with
    | cons _ _ => exact no_el hc
    | nil =>
      cases rs with
      | nil => exact no_el hc
      | cons r rs =>
        cases rs with
        | cons _ _ => exact no_el hc
        | nil =>
          refine ob_el hc fun _ h1 hc => ob_el hc fun _ h2 hc => ob_el hc fun _ h3 hc => ?_
          obtain rfl := Option.some.inj hc
          exact ev_cmp C L h8 hA ev Fr S ⟨m, h1⟩ ⟨m, h3⟩ h2 he
theorem ev_sub (C : COk cx) (L : Leaf cx θ) (h8 : 8 ≤ n) (hA : AOk A n) (ev : EvOk cx θ f n) (Fr : Frm θ cx env ns F ρ s) (S : St cx θ ρ H s) {m : Nat} {o i : Expr} {pos : Pos} {e : AX} (hc : cvSub (cv m ns) o i = some e) (he : stepEv f F H e = some (v, H')) :
    Tri cx A (eval (.Subscript o i pos) env) s (Res cx θ ρ s H' v) := by
  refine ob_el hc fun o' h1 hc => ?_
  have item : ∀ {i : Expr}, (Mine.ob (cv m ns i) fun i => some (.itm o' i)) = some e → Tri cx A (eval (.Subscript o i pos) env) s (Res cx θ ρ s H' v) := fun {i} hc => ob_el hc fun _ h2 hc => by
    obtain rfl := Option.some.inj hc
    exact ev_item C L h8 hA ev Fr S ⟨m, h1⟩ ⟨m, h2⟩ he
  cases i with
  | Slice lo up st p =>
    cases st with
    | some _ => exact no_el hc
    | none =>
      refine ob_el hc fun _ h2 hc => ob_el hc fun _ h3 hc => ?_
      obtain rfl := Option.some.inj hc
      exact ev_slice C L h8 hA ev Fr S ⟨m, h1⟩ h2 h3 he
  | _ => exact item hc

theorem ev_step (C : COk cx) (L : Leaf cx θ) (O : θ.Ok) (h8 : 8 ≤ n) (ev : EvOk cx θ f n) (tr : TrOk cx θ f n) (call : CallOk cx θ f n) (items : ItemsOk cx θ f n) {fnAt : Nat → Option FnI} : EvOk cx θ (step fnAt f) (n + 8) := by
  intro A env ns F ρ H s E e v H' hA Fr S hc he
  have hA' : AOk A n := hA.le (Nat.le_add_right n 8)
  obtain ⟨m, hc⟩ := hc.out
  have he : stepEv f F H e = some (v, H') := he
  cases E with
  | Constant c kd pos =>
    refine ob_el hc fun _ h1 hc => ?_
    obtain rfl := Option.some.inj hc
    exact ev_const S h1 he
  | Name x pos => exact ev_name C L Fr S hc he
  | BinOp l op r pos =>
    refine ob_el hc fun _ h1 hc => ob_el hc fun _ h2 hc => ob_el hc fun _ h3 hc => ?_
    obtain rfl := Option.some.inj hc
    exact ev_bin C O hA' ev Fr S ⟨m, h1⟩ ⟨m, h3⟩ h2 he
  | UnaryOp op x pos => exact ev_un L h8 hA' ev Fr S hc he
  | Compare l ops rs pos => exact ev_cmps C L h8 hA' ev Fr S hc he
  | BoolOp op es pos =>
    refine ob_el hc fun _ h1 hc => ?_
    obtain rfl := Option.some.inj hc
    exact ev_bool C L h8 hA' ev Fr S (Cv.list h1) he
  | IfExp t b o pos =>
    refine ob_el hc fun _ h1 hc => ob_el hc fun _ h2 hc => ob_el hc fun _ h3 hc => ?_
    obtain rfl := Option.some.inj hc
    exact ev_if C hA' ev tr Fr S ⟨m, h1⟩ ⟨m, h2⟩ ⟨m, h3⟩ he
  | Subscript o i pos => exact ev_sub C L h8 hA' ev Fr S hc he
  | Attribute o nm pos =>
    refine cnd_el hc fun h0 hc => ob_el hc fun _ h1 hc => ob_el hc fun _ h2 hc => ?_
    obtain rfl := Option.some.inj hc
    exact ev_attr L h8 hA' ev Fr S ⟨m, h1⟩ h0 h2 he
  | List es pos =>
    refine ob_el hc fun _ h1 hc => ?_
    obtain rfl := Option.some.inj hc
    exact ev_list C hA' ev Fr S (Cv.list h1) he
  | Tuple es kd pos =>
    refine ob_el hc fun _ h1 hc => ?_
    obtain rfl := Option.some.inj hc
    exact ev_tup C hA' ev Fr S (Cv.list h1) he
  | Call fn args kws pos => exact ev_call C L h8 ev call hA Fr S hc he
  | ListComp elt gs sc pos =>
    rw [eval_ListComp]
    exact comp_main C L h8 hA' ev items Fr S hc he (use := none) fun acc C' s' ρ' fl l S' hv hn ho hs hm => by
      obtain ⟨m', hm'⟩ := hm
      refine ⟨m', hm', fun h' hs' => ⟨ρ', ?_, S'.aside (s' := { s' with heap := h' }) hn ho hs' rfl, hv⟩⟩
      have l' : Lk cx [C'] ρ s ρ' { s' with heap := h' } := l.wide0.trans (Lk.of_new hs' hs hn rfl)
      exact l'.less fun z hz => by
        rcases List.mem_cons.mp hz with rfl | hz
        · exact .inr hs
        · cases hz
  | _ => exact no_el hc
end
end Mine
namespace Mine
open PySem PySem.W PyProof.Rows PySem.Calls
section
variable {cx : Cx} {θ : Th} {X ρ ρ' : List Addr} {H H' : AH} {s s' s'' : Shared} {A : Around} {env : Env} {ns : Names} {F : AF} {f : Fns} {n : Nat} {v : AV}

theorem stepTr_plain {e : AX} (h : plainX e = true) : stepTr f F H e = trVal (f.ev F H e) := by
  cases e <;> first | rfl | exact ft h
theorem trVal_out {r : Option (AV × AH)} {b : Bool} (e : trVal r = some (b, H')) : ∃ v, r = some (v, H') ∧ truth H' v = some b :=
  ob2_el e fun v H₁ h1 e => ob_el e fun b' h2 e => sm2e (Q := fun b H' => ∃ v, r = some (v, H') ∧ truth H' v = some b) e ⟨v, h1, h2⟩
theorem allTr_one {op : BoolOp} {e₀ : AX} {es : List AX} {b : Bool} (e : allTr f F (isAndOp op) H (e₀ :: es) = some (b, H')) : ∃ H₁ b₁, f.tr F H e₀ = some (b₁, H₁) ∧ (cond (b₁ == isAndOp op) (allTr f F (isAndOp op) H₁ es) (some (b₁, H₁)) = some (b, H')) := by
  cases es with
  | nil => exact ⟨H', b, e, by cases op <;> cases b <;> rfl⟩
  | cons _ _ => exact ob2_el e fun b₁ H₁ h1 e => ⟨H₁, b₁, h1, e⟩
theorem allTr_ok (C : COk cx) (tr : TrOk cx θ f n) (hA : AOk A n) {op : BoolOp} {Es : List Expr} {es : List AX} (h : All2 (Cv ns) Es es) : ∀ {ρ : List Addr} {H H' : AH} {s : Shared} {b : Bool}, Frm θ cx env ns F ρ s → St cx θ ρ H s → allTr f F (isAndOp op) H es = some (b, H') →
    Tri cx A (allTrue op Es env) s fun b' => Aft cx θ [] ρ s H' fun _ => b' = b := by
  induction h with
  | nil =>
    intro ρ H H' s b Fr S e
    obtain ⟨rfl, rfl⟩ := sm2 e
    cases op with
    | And => exact wpAny_allTrue_And_nil (.here S rfl)
    | Or => exact wpAny_allTrue_Or_nil (.here S rfl)
  | cons h _ ih =>
    intro ρ H H' s b Fr S e
    obtain ⟨H₁, b₁, h1, h2⟩ := allTr_one e
    cases op with
    | And =>
      refine wpAny_allTrue_And_cons (Tri.mono (tr hA Fr S h h1) fun b' s₁ ⟨ρ₁, l₁, S₁, hb⟩ => ?_)
      subst hb
      cases b' with
      | true => exact Tri.mono (ih (Fr.step0 C l₁) S₁ h2) fun _ s₂ r => r.step l₁
      | false => obtain ⟨rfl, rfl⟩ := sm2 h2; exact ⟨ρ₁, l₁, S₁, rfl⟩
    | Or =>
      refine wpAny_allTrue_Or_cons (Tri.mono (tr hA Fr S h h1) fun b' s₁ ⟨ρ₁, l₁, S₁, hb⟩ => ?_)
      subst hb
      cases b' with
      | false => exact Tri.mono (ih (Fr.step0 C l₁) S₁ h2) fun _ s₂ r => r.step l₁
      | true => obtain ⟨rfl, rfl⟩ := sm2 h2; exact ⟨ρ₁, l₁, S₁, rfl⟩

/-- a truth told by the value -/
theorem tr_plain (L : Leaf cx θ) (h8 : 8 ≤ n) (hA : AOk A n) (ev : EvOk cx θ f n) (Fr : Frm θ cx env ns F ρ s) (S : St cx θ ρ H s) {E : Expr} {e : AX} {b : Bool} (hc : Cv ns E e) (hp : plainX e = true) (he : stepTr f F H e = some (b, H')) (hi : isTrue E env (eval E env) = (do let v ← eval E env; standAt E.pos; holding [v] (truthy v))) :
    Tri cx A (isTrue E env (eval E env)) s fun b' => Aft cx θ [] ρ s H' fun _ => b' = b := by
  rw [stepTr_plain hp] at he
  obtain ⟨v, h1, h2⟩ := trVal_out he
  refine wpAny_isTrue_value (Tri.mono (ev hA Fr S hc h1) fun x s₁ ⟨ρ₁, l₁, S₁, v₁⟩ => ?_) hi
  exact Tri.mono (L.truth (hA.le h8) S₁ v₁ h2) fun b' s₂ r => r.step l₁
theorem tr_cmp (C : COk cx) (L : Leaf cx θ) (h8 : 8 ≤ n) (hA : AOk A n) (ev : EvOk cx θ f n) (Fr : Frm θ cx env ns F ρ s) (S : St cx θ ρ H s) {m : Nat} {l : Expr} {ops : List CmpOp} {rs : List Expr} {pos : Pos} {e : AX} {b : Bool} (hc : cvCmp (cv m ns) l ops rs = some e) (he : stepTr f F H e = some (b, H')) :
    Tri cx A (isTrue (.Compare l ops rs pos) env (eval (.Compare l ops rs pos) env)) s fun b' => Aft cx θ [] ρ s H' fun _ => b' = b := by
  cases ops with
  | nil => exact no_el hc
  | cons op ops =>
    cases ops with
    | cons _ _ => exact no_el hc
    | nil =>
      cases rs with
      | nil => exact no_el hc
      | cons r rs =>
        cases rs with
        | cons _ _ => exact no_el hc
        | nil =>
          refine ob_el hc fun _ h1 hc => ob_el hc fun _ h2 hc => ob_el hc fun _ h3 hc => ?_
          obtain rfl := Option.some.inj hc
          obtain ⟨v, h4, h5⟩ := trVal_out he
          obtain ⟨a, H₁, b₁, h6, h7, h8'⟩ := evCmp_out h4
          refine wpAny_isTrue_Compare1 (Tri.mono (ev hA Fr S ⟨m, h1⟩ h6) fun x s₁ ⟨ρ₁, l₁, S₁, v₁⟩ => Tri.mono (ev hA (Fr.step0 C l₁) S₁ ⟨m, h3⟩ h7) fun y s₂ ⟨ρ₂, l₂, S₂, v₂⟩ => ?_) (noMarks ⟨m, h3⟩)
          refine Tri.mono (L.cmp (hA.le h8) S₂ (l₂.vrel v₁) v₂ h2 h8') fun z s₃ ⟨ρ₃, l₃, S₃, v₃⟩ => ?_
          exact Tri.mono (L.truth (hA.le h8) S₃ v₃ h5) fun b' s₄ r => r.step (l₁.trans (l₂.trans l₃))

theorem tr_step (C : COk cx) (L : Leaf cx θ) (h8 : 8 ≤ n) (ev : EvOk cx θ f n) (tr : TrOk cx θ f n) {fnAt : Nat → Option FnI} : TrOk cx θ (step fnAt f) (n + 8) := by
  intro A env ns F ρ H s E e b H' hA Fr S hc he
  have hA' : AOk A n := hA.le (Nat.le_add_right n 8)
  have hcv := hc
  obtain ⟨m, hc⟩ := hc.out
  have he : stepTr f F H e = some (b, H') := he
  cases E with
  | UnaryOp op x pos =>
    cases op with
    | USub => exact tr_plain L h8 hA' ev Fr S hcv (nr_neg.p _ hc) he rfl
    | Not =>
      refine ob_el hc fun _ h1 hc => ?_
      obtain rfl := Option.some.inj hc
      refine ob2_el he fun b₁ H₁ h2 he => ?_
      obtain ⟨rfl, rfl⟩ := sm2 he
      exact wpAny_isTrue_Not (Tri.mono (tr hA' Fr S ⟨m, h1⟩ h2) fun b' s₁ r => r.imp fun _ q => by rw [q])
    | _ => exact no_el hc
  | BoolOp op es pos =>
    refine ob_el hc fun _ h1 hc => ?_
    obtain rfl := Option.some.inj hc
    exact wpAny_isTrue_BoolOp (allTr_ok C tr hA' (Cv.list h1) Fr S he)
  | IfExp t bd o pos =>
    refine ob_el hc fun _ h1 hc => ob_el hc fun _ h2 hc => ob_el hc fun _ h3 hc => ?_
    obtain rfl := Option.some.inj hc
    refine ob2_el he fun c H₁ h4 he => ?_
    rw [arm_isTrue_IfExp]
    refine wpAny_bind (Tri.mono (tr hA' Fr S ⟨m, h1⟩ h4) fun c' s₁ ⟨ρ₁, l₁, S₁, hcc⟩ => ?_)
    subst hcc
    cases c' with
    | true => exact Tri.mono (tr hA' (Fr.step0 C l₁) S₁ ⟨m, h2⟩ he) fun b' s₂ r => r.step l₁
    | false => exact Tri.mono (tr hA' (Fr.step0 C l₁) S₁ ⟨m, h3⟩ he) fun b' s₂ r => r.step l₁
  | Compare l ops rs pos => exact tr_cmp C L h8 hA' ev Fr S hc he
  | Call fn args kws pos => exact tr_plain L h8 hA' ev Fr S hcv (plain_call _ hc) he rfl
  | _ => exact tr_plain L h8 hA' ev Fr S hcv ((nr_both rfl).p _ hc) he rfl
end
end Mine
namespace Mine
open PySem PySem.W PyProof.Rows PySem.Calls

inductive Css (ns : Names) : List Stmt → List AS → Prop
  | nil : Css ns [] []
  | cons {S t Ss ts} : Cs ns S t → Css ns Ss ts → Css ns (S :: Ss) (t :: ts)
  | rooms {m s s' s'' t Ss ts} : asRooms (cv m ns) ns s s' s'' = some t → Css ns Ss ts → Css ns (s :: s' :: s'' :: Ss) (t :: ts)
theorem Css.of_all {ns : Names} {Ss : List Stmt} {ts : List AS} (h : All2 (Cs ns) Ss ts) : Css ns Ss ts := by
  induction h with
  | nil => exact .nil
  | cons h _ ih => exact .cons h ih
theorem Cs.list {ns : Names} {m n : Nat} {l : List Stmt} {r : List AS} (h : mapO (cs m n ns) l = some r) : Css ns l r := .of_all ((mapO_out h).imp fun _ _ e => ⟨m, n, e⟩)
theorem consO_el {α : Type} {a : Option α} {l : Option (List α)} {ts : List α} {P : List α → Prop} (h : consO a l = some ts) (k : ∀ t r, a = some t → l = some r → P (t :: r)) : P ts :=
  ob_el h fun t h1 h => ob_el h fun r h2 h => Option.some.inj h ▸ k t r h1 h2
theorem Css.of_body {ns : Names} {m n k : Nat} : ∀ {Ss : List Stmt} {ts : List AS}, csBody m n ns k Ss = some ts → Css ns Ss ts := by
  induction k with
  | zero => exact fun e => no_el e
  | succ k ih =>
    intro Ss ts e
    have e : csStepB m n ns (csBody m n ns k) Ss = some ts := e
    have plain : ∀ {s : Stmt} {r : List Stmt}, consO (cs m n ns s) (csBody m n ns k r) = some ts → Css ns (s :: r) ts := fun {s r} e => consO_el (P := fun ts => Css ns (s :: r) ts) e fun t l h1 h2 => .cons ⟨m, n, h1⟩ (ih h2)
    cases Ss with
    | nil => exact Option.some.inj e ▸ .nil
    | cons s r =>
      unfold csStepB at e
      dsimp only at e
      cases hp : roomsHere m ns s r with
      | none => rw [hp] at e; exact plain e
      | some p =>
        rw [hp] at e
        dsimp only at e
        cases r with
        | nil => exact no_el hp
        | cons s' r =>
          cases r with
          | nil => exact no_el hp
          | cons s'' r =>
            refine ob_el hp fun t ht hp => ?_
            obtain rfl := Option.some.inj hp
            exact consO_el (P := fun ts => Css ns (s :: s' :: s'' :: r) ts) e fun t l h1 h2 => Option.some.inj h1 ▸ .rooms ht (ih h2)

section
variable (cx : Cx) (θ : Th)
noncomputable def ExsOk (f : Fns) (n : Nat) : Prop := ∀ {A : Around} {env : Env} {ns : Names} {F : AF} {ρ : List Addr} {H : AH} {s : Shared} {Ss : List Stmt} {ts : List AS} {fl : Fl} {F' : AF} {H' : AH},
  AOk A n → Frm θ cx env ns F ρ s → St cx θ ρ H s → Css ns Ss ts → f.exs F H ts = some (fl, F', H') → Tri cx A (execs Ss env) s (ExPost cx θ env ns ρ s fl F' H')
/-- the three statements about the rooms, and what follows -/
noncomputable def RoomsOk (f : Fns) (n : Nat) : Prop := ∀ {A : Around} {env : Env} {ns : Names} {F : AF} {ρ : List Addr} {H : AH} {s : Shared} {m : Nat} {S S' S'' : Stmt} {Ss : List Stmt} {t : AS} {fl : Fl} {F' : AF} {H' : AH} {Q : Flow → Shared → Prop},
  AOk A n → Frm θ cx env ns F ρ s → St cx θ ρ H s → asRooms (cv m ns) ns S S' S'' = some t → f.ex F H t = some (fl, F', H') →
    (∀ s', fl = .next → Aft cx θ [env.locals] ρ s H' (fun ρ' => Frm θ cx env ns F' ρ' s') s' → Tri cx A (execs Ss env) s' Q) → Tri cx A (execs (S :: S' :: S'' :: Ss) env) s Q
noncomputable def LoopOk (f : Fns) (n : Nat) : Prop := ∀ {A : Around} {env : Env} {ns : Names} {F : AF} {ρ : List Addr} {H : AH} {s : Shared} {x : Str} {px : Pos} {i : Nat} {I : Addr} {it : IT} {b o : List Stmt} {b' o' : List AS} {fl : Fl} {F' : AF} {H' : AH},
  AOk A n → Frm θ cx env ns F ρ s → St cx θ ρ H s → slot x 0 ns = some (i, .local) → ItOk cx θ ρ s I it → Css ns b b' → Css ns o o' → f.loop F H i it b' o' = some (fl, F', H') →
    codeAny (model cx.prog cx.w) A (.forLoop (.Name x px) (.ref I) b o env) (fun r s' => ∃ x, r = .ok x ∧ Aft cx θ [env.locals, I] ρ s H' (fun ρ' => FlR θ ρ' fl x ∧ Frm θ cx env ns F' ρ' s') s') s
end

section
variable {cx : Cx} {θ : Th} {X ρ ρ' : List Addr} {H H' : AH} {s s' s'' : Shared} {A : Around} {env : Env} {ns : Names} {F F' : AF} {f : Fns} {n : Nat} {v : AV} {fl : Fl}

theorem ExPost.step {x : Flow} (l : Lk cx [env.locals] ρ s ρ' s') (h : ExPost cx θ env ns ρ' s' fl F' H' x s'') : ExPost cx θ env ns ρ s fl F' H' x s'' := Aft.step l h

theorem exs_step (ex : ExOk cx θ f n) (exs : ExsOk cx θ f n) (rooms : RoomsOk cx θ f n) {fnAt : Nat → Option FnI} : ExsOk cx θ (step fnAt f) (n + 8) := by
  intro A env ns F ρ H s Ss ts fl F' H' hA Fr S h e
  have hA' : AOk A n := hA.le (by omega)
  have e : stepExs f F H ts = some (fl, F', H') := e
  cases h with
  | nil => obtain ⟨rfl, rfl, rfl⟩ := sm3 e; exact wpAny_execs_nil ⟨ρ, .refl, S, rfl, Fr⟩
  | cons hs hr =>
    refine ob3_el e fun fl₁ F₁ H₁ h1 e => ?_
    refine wpAny_execs_cons (Tri.mono (ex hA' Fr S hs h1) fun x s₁ ⟨ρ₁, l₁, S₁, hx, Fr₁⟩ => ?_)
    cases fl₁ with
    | next =>
      have hx : x = .next := hx
      subst hx
      exact Tri.mono (exs hA' Fr₁ S₁ hr e) fun y s₂ r => r.step l₁
    | brk =>
      have hx : x = .brk := hx
      subst hx
      obtain ⟨rfl, rfl, rfl⟩ := sm3 e
      exact ⟨ρ₁, l₁, S₁, rfl, Fr₁⟩
    | cont =>
      have hx : x = .cont := hx
      subst hx
      obtain ⟨rfl, rfl, rfl⟩ := sm3 e
      exact ⟨ρ₁, l₁, S₁, rfl, Fr₁⟩
    | ret u =>
      obtain ⟨y, rfl, hy⟩ := hx
      obtain ⟨rfl, rfl, rfl⟩ := sm3 e
      exact ⟨ρ₁, l₁, S₁, ⟨y, rfl, hy⟩, Fr₁⟩
  | rooms hs hr =>
    refine ob3_el e fun fl₁ F₁ H₁ h1 e => ?_
    refine rooms hA' Fr S hs h1 fun s₁ hfl ⟨ρ₁, l₁, S₁, Fr₁⟩ => ?_
    subst hfl
    exact Tri.mono (exs hA' Fr₁ S₁ hr e) fun y s₂ r => ExPost.step l₁ r

theorem forLoop_once {target : Expr} {it : Value} {body orelse : List Stmt} {R : Result → Shared → Prop}
    (h : Tri cx A (pyNext it) s fun r s₁ => match r with
      | none => Tri cx A (execs orelse env) s₁ fun f s₃ => R (.ok f) s₃
      | some v => Tri cx A (assign target env v) s₁ fun _ s₂ => Tri cx A (execs body env) s₂ fun f s₃ => match f with
        | .next | .cont => codeAny (model cx.prog cx.w) A (.forLoop target it body orelse env) R s₃
        | .brk => R (.ok .next) s₃
        | .ret v => R (.ok (.ret v)) s₃)
    (ht : ∀ v, letOwnedTupleGo target it v = pure () := by intro _; rfl) : codeAny (model cx.prog cx.w) A (.forLoop target it body orelse env) R s := by
  refine codeAny_of_tree ?_
  show wpAny _ A ((forTurn target it body orelse env).onRaise (fun x => do noteFrame x env; theTreesLotGoes x)) _ _ s
  refine wpAny_noted ?_
  simp only [forTurn]
  refine wpAny_bind (wpAny_standAt (wpAny_bind (wpAny_onRaise (wpAny_mono h (fun r s₁ h₁ => ?_) fun _ _ h' => h'.elim))))
  cases r with
  | none => exact wpAny_pure ⟨rfl, codeAny_block (wpAny_mono h₁ (fun _ _ q => q) fun _ _ e => e.elim)⟩
  | some v =>
    refine wpAny_bind (wpAny_of_eq (ht v) ?_)
    refine wpAny_bind (wpAny_mono h₁ (fun _ s₂ h₂ => wpAny_bind (wpAny_mono h₂ (fun f s₃ h₃ => ?_) fun _ _ h' => h'.elim)) fun _ _ h' => h'.elim)
    cases f with
    | next => exact wpAny_pure ⟨rfl, h₃⟩
    | cont => exact wpAny_pure ⟨rfl, h₃⟩
    | brk => exact wpAny_pure h₃
    | ret v => exact wpAny_pure h₃

theorem loop_step (C : COk cx) (L : Leaf cx θ) (h8 : 8 ≤ n) (exs : ExsOk cx θ f n) (loop : LoopOk cx θ f n) {fnAt : Nat → Option FnI} : LoopOk cx θ (step fnAt f) (n + 8) := by
  intro A env ns F ρ H s x px i I it b o b' o' fl F' H' hA Fr S hslot hi hb ho e
  have hA' : AOk A n := hA.le (by omega)
  have e : stepLoop f F H i it b' o' = some (fl, F', H') := e
  have hIL : I ≠ env.locals := let ⟨m, hn, _⟩ := Fr.loc; hi.ne hn
  refine forLoop_once ?_
  unfold stepLoop at e
  split at e
  · rename_i hnx
    refine Tri.mono (L.next (hA'.le h8) S hi hnx) fun r s₁ ⟨ρ₁, l₁, S₁, hr₁⟩ => ?_
    have hr₁ : r = none := hr₁
    subst hr₁
    have Fr₁ := Fr.step C l₁ (nin1 hIL.symm)
    have l₁' : Lk cx [env.locals, I] ρ s ρ₁ s₁ := l₁.wide fun z hz => .tail _ hz
    refine Tri.mono (exs hA' Fr₁ S₁ ho e) fun y s₂ ⟨ρ₂, l₂, S₂, q⟩ => ?_
    have l₂' : Lk cx [env.locals, I] ρ₁ s₁ ρ₂ s₂ := l₂.wide fun z hz => mem_l hz
    exact ⟨y, rfl, ρ₂, l₁'.trans l₂', S₂, q⟩
  · rename_i p hnx
    refine Tri.mono (L.next (hA'.le h8) S hi hnx) fun r s₁ ⟨ρ₁, l₁, S₁, hr₁⟩ => ?_
    obtain ⟨y, rfl, hv, i₁⟩ := hr₁
    have Fr₁ := Fr.step C l₁ (nin1 hIL.symm)
    have l₁' : Lk cx [env.locals, I] ρ s ρ₁ s₁ := l₁.wide fun z hz => .tail _ hz
    refine wpAny_assign_Name (store_ok S₁ Fr₁ hslot hv fun s₂ l₂ S₂ Fr₂ => ?_)
    have l₂' : Lk cx [env.locals, I] ρ₁ s₁ ρ₁ s₂ := l₂.wide fun z hz => mem_l hz
    have i₂ := i₁.step C l₂ (nin1 hIL)
    refine ob3_el e fun fl₁ F₁ H₁ h1 e => ?_
    refine Tri.mono (exs hA' Fr₂ S₂ hb h1) fun z s₃ ⟨ρ₃, l₃, S₃, hz, Fr₃⟩ => ?_
    have l₃' : Lk cx [env.locals, I] ρ₁ s₂ ρ₃ s₃ := l₃.wide fun z hz => mem_l hz
    have lall := l₁'.trans (l₂'.trans l₃')
    have again : f.loop F₁ H₁ i p.2 b' o' = some (fl, F', H') → codeAny (model cx.prog cx.w) A (.forLoop (.Name x px) (.ref I) b o env) (fun r s' => ∃ x, r = .ok x ∧ Aft cx θ [env.locals, I] ρ s H' (fun ρ' => FlR θ ρ' fl x ∧ Frm θ cx env ns F' ρ' s') s') s₃ :=
      fun e => codeAny_mono (loop hA' Fr₃ S₃ hslot (i₂.step C l₃ (nin1 hIL)) hb ho e) fun r s' ⟨x, hx, q⟩ => ⟨x, hx, q.step lall⟩
    cases fl₁ with
    | next =>
      have hz : z = .next := hz
      subst hz
      exact again e
    | cont =>
      have hz : z = .cont := hz
      subst hz
      exact again e
    | brk =>
      have hz : z = .brk := hz
      subst hz
      obtain ⟨rfl, rfl, rfl⟩ := sm3 e
      exact ⟨_, rfl, ρ₃, lall, S₃, rfl, Fr₃⟩
    | ret u =>
      obtain ⟨y', rfl, hy'⟩ := hz
      obtain ⟨rfl, rfl, rfl⟩ := sm3 e
      exact ⟨_, rfl, ρ₃, lall, S₃, ⟨y', rfl, hy'⟩, Fr₃⟩
  · cases e
end
end Mine
namespace Mine
open PySem PySem.W PyProof.Rows PySem.Calls

section
variable (cx : Cx) (θ : Th)
noncomputable def UseOk (f : Fns) (n : Nat) : Prop := ∀ {A : Around} {env : Env} {ns : Names} {F : AF} {ρ : List Addr} {H : AH} {s : Shared} {elt : Expr} {gs : List Comprehension} {scope : Scope} {pos : Pos} {e : AX} {v : AV} {H' : AH} {use : Option (Value → Sem Unit)} {Q : Value → Shared → Prop},
  AOk A n → Frm θ cx env ns F ρ s → St cx θ ρ H s → Cv ns (.ListComp elt gs scope pos) e → f.ev F H e = some (v, H') →
    (∀ acc C' s' ρ' fl, Lk cx [] ρ s ρ' s' → St cx θ ρ' H' s' → VRel θ ρ' v acc → C' ∉ ρ' → cx.h₁.objs.size ≤ C' → s.heap.objs.size ≤ C' → (∃ m, s'.heap.Ns C' m) → compPost (model cx.prog cx.w) A (fun _ _ => False) use Q acc C' (.ok fl) s') →
    Tri cx A (comprehension (.ListComp elt gs scope pos) scope env (firstIterPos gs pos) (newList []) (firstAsync gs) (firstIter gs env) use) s Q
end

section
variable {cx : Cx} {θ : Th} {X ρ ρ' : List Addr} {H H' : AH} {s s' s'' : Shared} {A : Around} {env : Env} {ns : Names} {F F' : AF} {f : Fns} {n : Nat} {v : AV} {fl : Fl}

theorem use_step (C : COk cx) (L : Leaf cx θ) (h8 : 8 ≤ n) (ev : EvOk cx θ f n) (items : ItemsOk cx θ f n) {fnAt : Nat → Option FnI} : UseOk cx θ (step fnAt f) (n + 8) := by
  intro A env ns F ρ H s elt gs scope pos e v H' use Q hA Fr S hc he k
  obtain ⟨m, hc⟩ := hc.out
  exact comp_main C L h8 (hA.le (Nat.le_add_right n 8)) ev items Fr S hc he k

/-- what a name of the frame holds -/
noncomputable def Has (s : Shared) (L : Addr) (z : Str) (w : Value) : Prop := ∃ m, s.heap.Ns L m ∧ m z = some w
theorem Has.step {L : Addr} {z : Str} {w : Value} (h : Has s L z w) (k : ∀ o, s.heap.get? L = some o → s'.heap.get? L = some o) : Has s' L z w := let ⟨m, hn, hw⟩ := h; ⟨m, hn.at' k, hw⟩

theorem store_ok2 {x : Str} {i : Nat} {v : AV} {y : Value} {P : Unit → Shared → Prop} (S : St cx θ ρ H s) (f : Frm θ cx env ns F ρ s) (hx : slot x 0 ns = some (i, .local)) (hv : VRel θ ρ v y)
    (h : ∀ s', Lk cx [env.locals] ρ s ρ s' → St cx θ ρ H s' → Frm θ cx env ns (F.store i v) ρ s' → Has s' env.locals x y → (∀ z w, z ≠ x → Has s env.locals z w → Has s' env.locals z w) → Heap.SameBut env.locals s.heap s'.heap → s'.gens = s.gens → P () s') : Tri cx A (storeName env x y) s P := by
  obtain ⟨m, hn, hl⟩ := f.loc
  have hk : env.kindOf x = some .local := (f.names x i _ hx).resolve_right fun e => nomatch e.1
  refine wpAny_storeName_local hk hn (fun h' hn' hs => ?_) (by rw [f.kind]; rfl)
  refine h _ ⟨⟨[], (List.append_nil _).symm, fun _ m => nomatch m⟩, fun b o e hb _ => (hs.2 b fun z => hb (z ▸ .head _)).trans e, rfl, by show _ ≤ h'.objs.size; rw [hs.1]; exact Nat.le_refl _⟩
    (S.aside f.nin f.old hs rfl) (f.store hx hn hn' hv) ⟨_, hn', by simp⟩ (fun z w hz ⟨m₀, hn₀, hw⟩ => ⟨_, hn', ?_⟩) hs rfl
  show (if z = x then some y else m z) = some w
  rw [if_neg hz]
  obtain ⟨o, es, ep, ho, hd, _, hf⟩ := hn
  obtain ⟨o', es', ep', ho', hd', _, hf'⟩ := hn₀
  rw [ho] at ho'; cases ho'
  rw [hd] at hd'; cases hd'
  rw [← hf z, hf' z]; exact hw

theorem wpAny_release {vs keep : List Value} {M : Model} {E : Value → Shared → Prop} {Q : Unit → Shared → Prop} (h : Q () s) : wpAny M A (release vs keep) Q E s := fun Γ p hΓ => by
  rw [Sem.wp_release]; exact h

/-- a name bound -/
theorem setL_ok (C : COk cx) (hA : AOk A n) (ev : EvOk cx θ f n) (use : UseOk cx θ f n) (Fr : Frm θ cx env ns F ρ s) (S : St cx θ ρ H s) {x : Str} {px pos : Pos} {E : Expr} {e : AX} {i : Nat} (hc : Cv ns E e) (hx : slot x 0 ns = some (i, .local)) (he : f.ev F H e = some (v, H')) :
    Tri cx A (exec (.Assign [.Name x px] E pos) env) s (ExPost cx θ env ns ρ s .next (F.store i v) H') := by
  have usual : swapsWith E (some (.Name x px)) pos.line env = pure false → Tri cx A (exec (.Assign [.Name x px] E pos) env) s (ExPost cx θ env ns ρ s .next (F.store i v) H') := fun hsw =>
    wpAny_Assign_Name (Tri.mono (ev hA Fr S hc he) fun y s₁ ⟨ρ₁, l₁, S₁, v₁⟩ => store_ok S₁ (Fr.step0 C l₁) hx v₁ fun s₂ l₂ S₂ Fr₂ => ⟨ρ₁, l₁.wide0.trans l₂, S₂, rfl, Fr₂⟩) hsw
  cases E with
  | ListComp elt gs sc p =>
    cases hb : (env.blockKind == .function && env.kindOf x == some .local && px.line == (Expr.ListComp elt gs sc p).pos.line && !(sc.names.any fun (n, k) => n == x && (k == .local || k == .cell)) : Bool) with
    | false => exact usual (by show (pure _ : Sem Bool) = pure false; rw [hb])
    | true =>
      rw [exec_Assign_Name_used _ _ _ _ (by show (pure _ : Sem Bool) = pure true; rw [hb])]
      refine wpAny_bind (wpAny_standAt (wpAny_bind ?_))
      show Tri cx A (do let _ ← comprehension (.ListComp elt gs sc p) sc env _ (newList []) (firstAsync gs) (firstIter gs env) (some (assign (.Name x px) env))) s _
      refine wpAny_bind (Tri.mono (use (use := some (assign (.Name x px) env)) (Q := fun _ s' => ExPost cx θ env ns ρ s .next (F.store i v) H' .next s') hA Fr S hc he fun acc C' s' ρ' fl l S' hv hn ho hs hm => ?_) fun _ s' hq => wpAny_pure (wpAny_pure hq))
      show Tri cx A (assign (.Name x px) env acc) s' _
      obtain ⟨m', hm'⟩ := hm
      have hLC : env.locals ≠ C' := fun z => by
        obtain ⟨m₀, hn₀, _⟩ := Fr.loc
        exact Nat.lt_irrefl _ (Nat.lt_of_lt_of_le hn₀.lt (z ▸ hs))
      refine wpAny_assign_Name (store_ok2 S' (Fr.step0 C l) hx hv fun s₂ l₂ S₂ Fr₂ _ _ hsb _ => ⟨m', hm'.sameBut hsb (Ne.symm hLC), fun h' hs' => ⟨ρ', ?_, S₂.aside (s' := { s₂ with heap := h' }) hn ho hs' rfl, rfl, ?_⟩⟩)
      · have l' : Lk cx [env.locals, C'] ρ s ρ' { s₂ with heap := h' } := (l.wide0.trans (l₂.wide fun z hz => mem_l hz)).trans ((Lk.of_new (ρ' := ρ') (s := s) hs' hs hn rfl).wide fun z hz => by simp at hz ⊢; exact .inr hz)
        exact l'.less fun z hz => by
          rcases List.mem_cons.mp hz with rfl | hz
          · exact .inl (.head _)
          · rcases List.mem_cons.mp hz with rfl | hz
            · exact .inr hs
            · cases hz
      · exact Fr₂.step C (Lk.of_new (ρ' := ρ') (s := s) hs' hs hn rfl) (by simpa using hLC)
  | _ => first
    | exact usual rfl
    | (obtain ⟨m, hc⟩ := hc.out; cases hc; done)
end
end Mine
namespace Mine
open PySem PySem.W PyProof.Rows PySem.Calls
section
variable {cx : Cx} {θ : Th} {X ρ ρ' : List Addr} {H H' : AH} {s s' s'' : Shared} {A : Around} {env : Env} {ns : Names} {F F' : AF} {f : Fns} {n : Nat} {v : AV} {fl : Fl}

theorem noSwap {E : Expr} {e : AX} (h : Cv ns E e) (t : Option Expr) (ht : (∀ x p, t ≠ some (.Name x p)) ∧ t ≠ none) (line : Nat) : swapsWith E t line env = pure false := by
  obtain ⟨m, h⟩ := h.out
  cases E with
  | ListComp elt gs sc p =>
    cases t with
    | none => exact absurd rfl ht.2
    | some T =>
      cases T with
      | Name x p => exact absurd rfl (ht.1 x p)
      | _ => rfl
  | _ => first | rfl | exact no_el h
theorem noSwapT {E : Expr} {e : AX} (h : Cv ns E e) {T : Expr} (ht : ∀ x p, T ≠ .Name x p) {line : Nat} : swapsWithSole [T] E line env = pure false :=
  noSwap h (some T) ⟨fun x p q => ht x p (Option.some.inj q), fun q => by cases q⟩ line
theorem noSwapE {E : Expr} (h : notComp E = true) (t : Option Expr) (line : Nat) : swapsWith E t line env = pure false := by
  cases E <;> first | rfl | exact ft h

theorem cell_at (Fr : Frm θ cx env ns F ρ s) {x : Str} {i : Nat} (hx : slot x 0 ns = some (i, .cell)) : env.kindOf x = some .cell := (Fr.names x i _ hx).elim id fun e => nomatch e.1

/-- a cell's name bound -/
theorem setC_ok (C : COk cx) (hA : AOk A n) (ev : EvOk cx θ f n) (Fr : Frm θ cx env ns F ρ s) (S : St cx θ ρ H s) {x : Str} {px pos : Pos} {E : Expr} {e : AX} {i : Nat} {H₁ : AH} (hc : Cv ns E e) (hx : slot x 0 ns = some (i, .cell)) (he : f.ev F H e = some (v, H₁)) (hs : storeC F H₁ i v = some H') :
    Tri cx A (exec (.Assign [.Name x px] E pos) env) s (ExPost cx θ env ns ρ s .next F H') := by
  have hk := cell_at Fr hx
  have hsw : swapsWith E (some (.Name x px)) pos.line env = pure false := by
    cases E with
    | ListComp elt gs sc p =>
      show (pure (env.blockKind == .function && env.kindOf x == some .local && px.line == (Expr.ListComp elt gs sc p).pos.line && !(sc.names.any fun (n, k) => n == x && (k == .local || k == .cell))) : Sem Bool) = pure false
      rw [hk]
      have : ((some NameKind.cell : Option NameKind) == some NameKind.local) = false := rfl
      rw [this, Bool.and_false]; rfl
    | _ => first
      | rfl
      | (obtain ⟨m, hc⟩ := hc.out; exact no_el hc)
  refine ob_el hs fun k hk' hs => ?_
  cases hg : H₁.get k with
  | none => rw [hg] at hs; exact no_el hs
  | some o =>
  rw [hg] at hs
  cases o with
  | cell w =>
    obtain rfl := Option.some.inj hs
    refine wpAny_Assign_Name (Tri.mono (ev hA Fr S hc he) fun y s₁ ⟨ρ₁, l₁, S₁, v₁⟩ => ?_) hsw
    have Fr₁ := Fr.step0 C l₁
    obtain ⟨a, ha, hρ⟩ := Fr₁.cel x i _ k hx hk'
    obtain ⟨o, ho, w', hw', _⟩ := S₁.getO hρ hg
    refine wpAny_storeName_cell Fr.kind hk ha ⟨o, ho, hw'⟩ fun h' hcl hsb => ?_
    obtain ⟨o', ho', hd'⟩ := hcl
    obtain ⟨S₂, l₂⟩ := S₁.put (X := [env.locals]) (o' := o') (ao := .cell (some v)) hρ hsb ho' ⟨some y, hd', y, rfl, v₁⟩
    exact ⟨ρ₁, l₁.wide0.trans l₂, S₂, rfl, Fr₁.step C (S₁.put (X := []) (o' := o') (ao := .cell (some v)) hρ hsb ho' ⟨some y, hd', y, rfl, v₁⟩).2 fun h => nomatch h⟩
  | _ => exact no_el hs

theorem storeAll_ok {ts : List Expr} {is : List Nat} (h : All2 (fun t i => nameLoc ns t = some i) ts is) : ∀ {vs : List AV} {ys : List Value} {F F' : AF} {ρ : List Addr} {s : Shared}, St cx θ ρ H s → Frm θ cx env ns F ρ s → All2 (VRel θ ρ) vs ys → storeN F is vs = some F' →
    Tri cx A (assignInOrder ((assignEach ts env).map (·.2)) ys) s fun _ s' => Lk cx [env.locals] ρ s ρ s' ∧ St cx θ ρ H s' ∧ Frm θ cx env ns F' ρ s' := by
  induction h with
  | nil =>
    intro vs ys F F' ρ s S Fr hv e
    cases hv with
    | nil => exact wpAny_pure ⟨.refl, S, Option.some.inj e ▸ Fr⟩
    | cons _ _ => exact no_el e
  | cons h _ ih =>
    intro vs ys F F' ρ s S Fr hv e
    cases hv with
    | nil => exact no_el e
    | cons hv ht =>
      obtain ⟨x, px, rfl, hx⟩ := nameLoc_out h
      show Tri cx A (do holding _ (assign (.Name x px) env _); assignInOrder ((assignEach _ env).map (·.2)) _) s _
      refine wpAny_bind (wpAny_holding (wpAny_assign_Name (store_ok S Fr hx hv fun s₁ l₁ S₁ Fr₁ => ?_)))
      exact Tri.mono (ih S₁ Fr₁ ht e) fun _ s₂ ⟨l₂, r⟩ => ⟨l₁.trans l₂, r⟩

theorem assignEach_names {ts : List Expr} {is : List Nat} (h : All2 (fun t i => nameLoc ns t = some i) ts is) : (assignEach ts env).length = is.length ∧ (assignEach ts env).findIdx? (·.1) = none := by
  induction h with
  | nil => exact ⟨rfl, rfl⟩
  | cons h _ ih =>
    obtain ⟨x, px, rfl, hx⟩ := nameLoc_out h
    refine ⟨congrArg (· + 1) ih.1, ?_⟩
    show List.findIdx? (·.1) ((false, assign (.Name x px) env) :: assignEach _ env) = none
    rw [List.findIdx?_cons, ih.2]; rfl
theorem storeN_len {is : List Nat} : ∀ {vs : List AV} {F F' : AF}, storeN F is vs = some F' → is.length = vs.length := by
  induction is with
  | nil =>
    intro vs F F' e
    cases vs with
    | nil => rfl
    | cons _ _ => exact no_el e
  | cons _ is ih =>
    intro vs F F' e
    cases vs with
    | nil => exact no_el e
    | cons _ vs => exact congrArg (· + 1) (ih e)

theorem notSwapped {ts : List Expr} {k : Nat} {tp : Pos} {E : Expr} (h : notTuple E = true) : swappedStores [.Tuple ts k tp] E env = pure none := by
  cases E <;> first | rfl | exact ft h

/-- several names bound -/
theorem setN_ok (C : COk cx) (L : Leaf cx θ) (h8 : 8 ≤ n) (hA : AOk A n) (ev : EvOk cx θ f n) (Fr : Frm θ cx env ns F ρ s) (S : St cx θ ρ H s) {ts : List Expr} {is : List Nat} {k : Nat} {tp pos : Pos} {E : Expr} {e : AX} (hc : Cv ns E e) (hE : notTuple E = true) (ht : All2 (fun t i => nameLoc ns t = some i) ts is)
    (he : exNames F is (f.ev F H e) = some (fl, F', H')) : Tri cx A (exec (.Assign [.Tuple ts k tp] E pos) env) s (ExPost cx θ env ns ρ s fl F' H') := by
  refine ob2_el he fun u H₁ h1 he => ?_
  refine ob_el he fun vs h2 he => ?_
  refine ob_el he fun F₁ h3 he => ?_
  obtain ⟨rfl, rfl, rfl⟩ := sm3 he
  obtain ⟨hl, hf⟩ := assignEach_names (env := env) ht
  rw [arm_exec_Assign]
  refine wpAny_bind (wpAny_standAt (wpAny_bind (wpAny_of_eq (a := false) (noSwapT hc (T := (.Tuple ts k tp)) (fun x p h => nomatch h)) ?_)))
  simp only [Bool.false_eq_true, if_false]
  refine wpAny_bind (Tri.mono (ev hA Fr S hc h1) fun x s₁ ⟨ρ₁, l₁, S₁, v₁⟩ => wpAny_bind (wpAny_of_eq (notSwapped hE) ?_))
  show Tri cx A (do assign (.Tuple ts k tp) env x; pure Flow.next) s₁ _
  refine wpAny_bind ?_
  rw [arm_assign_Tuple]
  refine wpAny_bind (wpAny_standAt ?_)
  unfold unpack
  rw [hf, hl, storeN_len h3]
  refine wpAny_bind (wpAny_holding (Tri.mono (L.unp (hA.le h8) S₁ v₁ h2) fun ys s₂ ⟨ρ₂, l₂, S₂, v₂⟩ => ?_))
  exact Tri.mono (storeAll_ok ht S₂ ((Fr.step0 C l₁).step0 C l₂) v₂ h3) fun _ s₃ ⟨l₃, S₃, Fr₃⟩ => wpAny_pure ⟨ρ₂, l₁.wide0.trans (l₂.wide0.trans l₃), S₃, rfl, Fr₃⟩

theorem setA_ok (C : COk cx) (L : Leaf cx θ) (h8 : 8 ≤ n) (hA : AOk A n) (ev : EvOk cx θ f n) (Fr : Frm θ cx env ns F ρ s) (S : St cx θ ρ H s) {o : Expr} {o' : AX} {nm : Str} {i : Nat} {tp pos : Pos} {E : Expr} {e : AX} (hc : Cv ns E e) (ho : Cv ns o o') (hi : attrId nm = some i)
    (he : exAttr f F H o' i e = some (fl, F', H')) : Tri cx A (exec (.Assign [.Attribute o nm tp] E pos) env) s (ExPost cx θ env ns ρ s fl F' H') := by
  refine ob2_el he fun u H₁ h1 he => ?_
  refine ob2_el he fun w H₂ h2 he => ?_
  refine ob_el he fun H₃ h3 he => ?_
  obtain ⟨rfl, rfl, rfl⟩ := sm3 he
  rw [arm_exec_Assign]
  refine wpAny_bind (wpAny_standAt (wpAny_bind (wpAny_of_eq (a := false) (noSwapT hc (T := (.Attribute o nm tp)) (fun x p h => nomatch h)) ?_)))
  simp only [Bool.false_eq_true, if_false]
  refine wpAny_bind (Tri.mono (ev hA Fr S hc h1) fun x s₁ ⟨ρ₁, l₁, S₁, v₁⟩ => wpAny_bind (wpAny_of_eq (a := none) rfl ?_))
  show Tri cx A (do assign (.Attribute o nm tp) env x; pure Flow.next) s₁ _
  refine wpAny_bind ?_
  rw [arm_assign_Attribute]
  refine wpAny_bind (wpAny_holding (Tri.mono (ev hA (Fr.step0 C l₁) S₁ ho h2) fun y s₂ ⟨ρ₂, l₂, S₂, v₂⟩ => wpAny_bind (wpAny_standAt (wpAny_bind (wpAny_holding (Tri.mono (L.sat (hA.le h8) S₂ v₂ (l₂.vrel v₁) (attrId_out hi) h3) fun _ s₃ ⟨ρ₃, l₃, S₃, _⟩ => ?_))))))
  have l := l₁.trans (l₂.trans l₃)
  exact wpAny_release (wpAny_pure ⟨ρ₃, l.wide0, S₃, rfl, Fr.step0 C l⟩)

theorem setS_ok (C : COk cx) (L : Leaf cx θ) (h8 : 8 ≤ n) (hA : AOk A n) (ev : EvOk cx θ f n) (Fr : Frm θ cx env ns F ρ s) (S : St cx θ ρ H s) {o : Expr} {lo : Option Expr} {o' lo' : AX} {m : Nat} {p tp pos : Pos} {E : Expr} {e : AX} (hc : Cv ns E e) (ho : Cv ns o o') (hlo : cvPart (cv m ns) lo = some lo')
    (he : exSlice f F H o' lo' e = some (fl, F', H')) : Tri cx A (exec (.Assign [.Subscript o (.Slice lo none none p) tp] E pos) env) s (ExPost cx θ env ns ρ s fl F' H') := by
  refine ob2_el he fun u H₁ h1 he => ?_
  refine ob2_el he fun w H₂ h2 he => ?_
  refine ob2_el he fun z H₃ h3 he => ?_
  refine ob_el he fun H₄ h4 he => ?_
  obtain ⟨rfl, rfl, rfl⟩ := sm3 he
  rw [arm_exec_Assign]
  refine wpAny_bind (wpAny_standAt (wpAny_bind (wpAny_of_eq (a := false) (noSwapT hc (T := (.Subscript o (.Slice lo none none p) tp)) (fun x p h => nomatch h)) ?_)))
  simp only [Bool.false_eq_true, if_false]
  refine wpAny_bind (Tri.mono (ev hA Fr S hc h1) fun x s₁ ⟨ρ₁, l₁, S₁, v₁⟩ => wpAny_bind (wpAny_of_eq (a := none) rfl ?_))
  show Tri cx A (do assign (.Subscript o (.Slice lo none none p) tp) env x; pure Flow.next) s₁ _
  refine wpAny_bind ?_
  rw [arm_assign_Subscript]
  refine wpAny_bind (wpAny_holding (Tri.mono (ev hA (Fr.step0 C l₁) S₁ ho h2) fun y s₂ ⟨ρ₂, l₂, S₂, v₂⟩ => wpAny_bind (wpAny_holding (wpAny_Slice (Tri.mono (part_ok hA ev (Fr.step0 C (l₁.trans l₂)) S₂ hlo h3) fun q s₃ ⟨ρ₃, l₃, S₃, v₃⟩ => wpAny_pure (wpAny_pure (wpAny_bind (wpAny_standAt ?_))))))))
  have S₄ : St cx θ ρ₃ H₃ { s₃ with heap := s₃.heap.push { cls := .type "slice", data := .fields #[q, .none, .none] } } := S₃.frame (fun _ _ e => Heap.get?_push_of_some _ e) S₃.bare (by show _ ≤ (Heap.push _ _).objs.size; rw [Heap.size_push]; exact Nat.le_succ _)
  have l₄ : Lk cx [] ρ₃ s₃ ρ₃ { s₃ with heap := s₃.heap.push { cls := .type "slice", data := .fields #[q, .none, .none] } } := Lk.of_all (fun _ _ e => Heap.get?_push_of_some _ e) rfl (by show _ ≤ (Heap.push _ _).objs.size; rw [Heap.size_push]; exact Nat.le_succ _)
  refine wpAny_bind (wpAny_holding (Tri.mono (L.ssl (hA.le h8) S₄ (l₃.vrel v₂) v₃ (l₃.vrel (l₂.vrel v₁)) (Heap.get?_push_size _ rfl) h4) fun _ s₅ ⟨ρ₅, l₅, S₅, _⟩ => ?_))
  have l := l₁.trans (l₂.trans (l₃.trans (l₄.trans l₅)))
  exact wpAny_release (wpAny_pure ⟨ρ₅, l.wide0, S₅, rfl, Fr.step0 C l⟩)

theorem aug_ok (C : COk cx) (O : θ.Ok) (hA : AOk A n) (ev : EvOk cx θ f n) (Fr : Frm θ cx env ns F ρ s) (S : St cx θ ρ H s) {x : Str} {px pos : Pos} {i : Nat} {op : Operator} {bop : BOp} {E : Expr} {e : AX} (hc : Cv ns E e) (hx : slot x 0 ns = some (i, .local)) (ho : bopOf op = some bop) (ho2 : op = .Add ∨ op = .Mult)
    (he : exAug f F H i bop e = some (fl, F', H')) : Tri cx A (exec (.AugAssign (.Name x px) op E pos) env) s (ExPost cx θ env ns ρ s fl F' H') := by
  refine ob_el he fun a ha he => ?_
  refine ob2_el he fun b H₁ h1 he => ?_
  obtain ⟨hi, he⟩ := cond_true he
  obtain ⟨hi1, hi2⟩ := and_t hi
  refine ob2_el he fun r H₂ h2 he => ?_
  obtain ⟨rfl, rfl, rfl⟩ := sm3 he
  obtain ⟨h5, rfl⟩ := wv_out h2
  obtain ⟨m, hn, hl⟩ := Fr.loc
  obtain ⟨y, hy, hv⟩ := hl x i a hx ha
  have hk : env.kindOf x = some .local := (Fr.names x i _ hx).resolve_right fun e => nomatch e.1
  refine wpAny_AugAssign_Name (wpAny_loadName_local Fr.kind hk hn hy (Tri.mono (ev hA Fr S hc h1) fun z s₁ ⟨ρ₁, l₁, S₁, v₁⟩ => ?_))
  have fin : ∀ {r' : Value} {s₂ : Shared}, s₂.heap = s₁.heap → s₂.gens = s₁.gens → s₂.os = s₁.os → VRel θ ρ₁ r r' → Tri cx A (storeName env x r') s₂ fun _ => ExPost cx θ env ns ρ s .next (F.store i r) H₂ .next := by
    intro r' s₂ e1 e2 e3 hr
    have l₂ : Lk cx [] ρ₁ s₁ ρ₁ s₂ := .same e1 e3
    exact store_ok (S₁.same e1 e2) ((Fr.step0 C l₁).step0 C l₂) hx hr fun s₃ l₃ S₃ Fr₃ => ⟨ρ₁, l₁.wide0.trans (l₂.wide0.trans l₃), S₃, rfl, Fr₃⟩
  cases a <;> first | exact ft hi1 | skip
  cases b <;> first | exact ft hi2 | skip
  obtain ⟨i₁, t₁, rfl, hi₁⟩ := hv
  obtain ⟨i₂, t₂, rfl, hi₂⟩ := v₁
  rcases ho2 with rfl | rfl
  · obtain rfl := Option.some.inj ho
    obtain ⟨c, hc, rfl⟩ := oi_some h5
    exact AutoIntOps.iadd_0 (fin rfl rfl rfl ⟨_, _, rfl, aadd_ok hc hi₁ hi₂⟩)
  · obtain rfl := Option.some.inj ho
    obtain ⟨c, hc, rfl⟩ := oi_some h5
    obtain ⟨z, hm⟩ := amul_ok O hc hi₁ hi₂
    exact AutoIntOps.imul_0 (fin rfl rfl rfl ⟨_, _, rfl, z⟩) hm
end
end Mine
namespace Mine
open PySem PySem.W PyProof.Rows PySem.Calls
section
variable {cx : Cx} {θ : Th} {X ρ ρ' : List Addr} {H H' : AH} {s s' s'' : Shared} {A : Around} {env : Env} {ns : Names} {F F' : AF} {f : Fns} {n : Nat} {v : AV} {fl : Fl}

theorem notInteractive (Fr : Frm θ cx env ns F ρ s) : interactive env = false := by
  unfold interactive
  rw [Fr.kind]; rfl

theorem ex_assign (C : COk cx) (L : Leaf cx θ) (h8 : 8 ≤ n) (hA : AOk A n) (ev : EvOk cx θ f n) (use : UseOk cx θ f n) (Fr : Frm θ cx env ns F ρ s) (S : St cx θ ρ H s) {m : Nat} {T E : Expr} {pos : Pos} {e : AX} {t : AS} (h1 : cv m ns E = some e) (hs : csTarget (cv m ns) ns T E e = some t)
    (he : stepEx f F H t = some (fl, F', H')) : Tri cx A (exec (.Assign [T] E pos) env) s (ExPost cx θ env ns ρ s fl F' H') := by
  cases T with
  | Name x px =>
    refine ob2_el hs fun i kd hx hs => ?_
    cases kd with
    | «local» =>
      obtain rfl := Option.some.inj hs
      refine ob2_el he fun u H₁ h2 he => ?_
      obtain ⟨rfl, rfl, rfl⟩ := sm3 he
      exact setL_ok C hA ev use Fr S ⟨m, h1⟩ hx h2
    | cell =>
      obtain rfl := Option.some.inj hs
      refine ob2_el he fun u H₁ h2 he => ob_el he fun H₂ h3 he => ?_
      obtain ⟨rfl, rfl, rfl⟩ := sm3 he
      exact setC_ok C hA ev Fr S ⟨m, h1⟩ hx h2 h3
    | _ => exact no_el hs
  | Tuple ts k' tp =>
    refine cnd_el hs fun hE hs => ob_el hs fun is h2 hs => ?_
    obtain rfl := Option.some.inj hs
    exact setN_ok C L h8 hA ev Fr S ⟨m, h1⟩ hE (mapO_out h2) he
  | Attribute o nm tp =>
    refine ob_el hs fun _ h2 hs => ob_el hs fun _ h3 hs => ?_
    obtain rfl := Option.some.inj hs
    exact setA_ok C L h8 hA ev Fr S ⟨m, h1⟩ ⟨m, h2⟩ h3 he
  | Subscript o i tp =>
    refine ob_el hs fun o' h2 hs => ?_
    cases i with
    | Slice lo up st _ =>
      cases up with
      | some _ => exact no_el hs
      | none =>
        cases st with
        | some _ => exact no_el hs
        | none =>
          refine ob_el hs fun _ h3 hs => ?_
          obtain rfl := Option.some.inj hs
          exact setS_ok C L h8 hA ev Fr S ⟨m, h1⟩ ⟨m, h2⟩ h3 he
    | _ => exact no_el hs
  | _ => exact no_el hs
theorem ex_aug (C : COk cx) (O : θ.Ok) (hA : AOk A n) (ev : EvOk cx θ f n) (Fr : Frm θ cx env ns F ρ s) (S : St cx θ ρ H s) {m : Nat} {T E : Expr} {op : Operator} {pos : Pos} {t : AS} (hs : csAug (cv m ns) ns T op E = some t)
    (he : stepEx f F H t = some (fl, F', H')) : Tri cx A (exec (.AugAssign T op E pos) env) s (ExPost cx θ env ns ρ s fl F' H') := by
  refine ob_el hs fun i h1 hs => ob_el hs fun bop h2 hs => ob_el hs fun e h3 hs => ?_
  obtain ⟨x, px, rfl, hx⟩ := nameLoc_out h1
  cases op with
  | Add =>
    obtain rfl := Option.some.inj h2
    obtain rfl := Option.some.inj hs
    exact aug_ok C O hA ev Fr S ⟨m, h3⟩ hx rfl (.inl rfl) he
  | Mult =>
    obtain rfl := Option.some.inj h2
    obtain rfl := Option.some.inj hs
    exact aug_ok C O hA ev Fr S ⟨m, h3⟩ hx rfl (.inr rfl) he
  | Sub => obtain rfl := Option.some.inj h2; exact no_el hs
  | FloorDiv => obtain rfl := Option.some.inj h2; exact no_el hs
  | Mod => obtain rfl := Option.some.inj h2; exact no_el hs
  | _ => exact no_el h2
theorem less2 {a I : Addr} (l : Lk cx [a, I] ρ s ρ' s') (hI : s.heap.objs.size ≤ I) : Lk cx [a] ρ s ρ' s' := l.less fun z hz => by
  rcases List.mem_cons.mp hz with rfl | hz
  · exact .inl (.head _)
  · exact .inr (List.mem_singleton.mp hz ▸ hI)

theorem ex_step (C : COk cx) (L : Leaf cx θ) (O : θ.Ok) (h8 : 8 ≤ n) (ev : EvOk cx θ f n) (tr : TrOk cx θ f n) (use : UseOk cx θ f n) (exs : ExsOk cx θ f n) (loop : LoopOk cx θ f n) {fnAt : Nat → Option FnI} : ExOk cx θ (step fnAt f) (n + 8) := by
  intro A env ns F ρ H s S t fl F' H' hA Fr St hc he
  have hA' : AOk A n := hA.le (Nat.le_add_right n 8)
  have he : stepEx f F H t = some (fl, F', H') := he
  obtain ⟨m, k, hc⟩ := hc
  cases k with
  | zero => exact no_el hc
  | succ k =>
  have hc : orBad (csStep (cv m ns) ns (cs m k ns) S) = some t := hc
  cases hs : csStep (cv m ns) ns (cs m k ns) S with
  | none => rw [hs] at hc; obtain rfl := Option.some.inj hc; exact no_el he
  | some t' =>
  rw [hs] at hc
  obtain rfl := Option.some.inj hc
  cases S with
  | Return e pos =>
    refine ob_el hs fun e' h1 hs => ?_
    obtain rfl := Option.some.inj hs
    refine ob2_el he fun u H₁ h2 he => ?_
    obtain ⟨rfl, rfl, rfl⟩ := sm3 he
    cases e with
    | none =>
      have := part_ok (env := env) (A := A) hA' ev Fr St h1 h2
      rw [exec_Return_none]
      exact wpAny_bind (wpAny_standAt (show Tri cx A ((pure Value.none : Sem Value) >>= fun v => (pure (Flow.ret v) : Sem Flow)) s _ from wpAny_bind (Tri.mono this fun x s₁ ⟨ρ₁, l₁, S₁, v₁⟩ => wpAny_pure ⟨ρ₁, l₁.wide0, S₁, ⟨x, rfl, v₁⟩, Fr.step0 C l₁⟩)))
    | some E => exact wpAny_Return_some (Tri.mono (ev hA' Fr St ⟨m, h1⟩ h2) fun x s₁ ⟨ρ₁, l₁, S₁, v₁⟩ => ⟨ρ₁, l₁.wide0, S₁, ⟨x, rfl, v₁⟩, Fr.step0 C l₁⟩)
  | Assign ts E pos =>
    cases ts with
    | nil => exact no_el hs
    | cons T ts =>
      cases ts with
      | cons _ _ => exact no_el hs
      | nil => exact ob_el hs fun e' h1 hs => ex_assign C L h8 hA' ev use Fr St h1 hs he
  | AugAssign T op E pos => exact ex_aug C O hA' ev Fr St hs he
  | If test b o pos =>
    refine ob_el hs fun _ h1 hs => ob_el hs fun _ h2 hs => ob_el hs fun _ h3 hs => ?_
    obtain rfl := Option.some.inj hs
    refine ob2_el he fun c H₁ h4 he => ?_
    refine wpAny_If (Tri.mono (tr hA' Fr St ⟨m, h1⟩ h4) fun c' s₁ ⟨ρ₁, l₁, S₁, hcc⟩ => ?_)
    subst hcc
    cases c' with
    | true => exact Tri.mono (exs hA' (Fr.step0 C l₁) S₁ (Cs.list h2) he) fun y s₂ r => ExPost.step l₁.wide0 r
    | false => exact Tri.mono (exs hA' (Fr.step0 C l₁) S₁ (Cs.list h3) he) fun y s₂ r => ExPost.step l₁.wide0 r
  | For T it b o pos =>
    refine ob_el hs fun _ h1 hs => ob_el hs fun _ h2 hs => ob_el hs fun _ h3 hs => ob_el hs fun _ h4 hs => ?_
    obtain rfl := Option.some.inj hs
    obtain ⟨x, px, rfl, hx⟩ := nameLoc_out h1
    refine ob2_el he fun I' H₁ h5 he => ?_
    refine wpAny_For (Tri.mono (iter_ok C L h8 hA' ev Fr St ⟨m, h2⟩ h5) fun y s₁ q => Tri.mono (q (hA'.le h8)) fun z s₂ q => ?_) fun x => noFold ⟨m, h2⟩ x
    obtain ⟨I, rfl, hI, ρ₂, l₂, S₂, i₂⟩ := q
    refine codeAny_mono (loop hA' (Fr.step0 C l₂) S₂ hx i₂ (Cs.list h3) (Cs.list h4) he) fun r s' ⟨y, hr, ρ₃, l₃, S₃, q⟩ => ?_
    subst hr
    exact ⟨ρ₃, less2 (l₂.wide0.trans l₃) hI, S₃, q⟩
  | Expr e pos =>
    refine cnd_el hs fun hn hs => ob_el hs fun e' h1 hs => ?_
    obtain rfl := Option.some.inj hs
    refine ob2_el he fun u H₁ h2 he => ?_
    obtain ⟨rfl, rfl, rfl⟩ := sm3 he
    exact wpAny_Expr_any (Tri.mono (ev hA' Fr St ⟨m, h1⟩ h2) fun x s₁ ⟨ρ₁, l₁, S₁, v₁⟩ => ⟨ρ₁, l₁.wide0, S₁, rfl, Fr.step0 C l₁⟩) (notInteractive Fr) (noSwapE hn _ _)
  | Break pos =>
    obtain rfl := Option.some.inj hs
    obtain ⟨rfl, rfl, rfl⟩ := sm3 he
    exact wpAny_Break ⟨ρ, .refl, St, rfl, Fr⟩
  | Continue pos =>
    obtain rfl := Option.some.inj hs
    obtain ⟨rfl, rfl, rfl⟩ := sm3 he
    exact wpAny_Continue ⟨ρ, .refl, St, rfl, Fr⟩
  | _ => exact no_el hs
end
end Mine
namespace Mine
open PySem PySem.W PyProof.Rows PySem.Calls
section
variable {cx : Cx} {θ : Th} {X ρ ρ' : List Addr} {H H' : AH} {s s' s'' : Shared} {A : Around} {env : Env} {ns : Names} {F F' : AF} {f : Fns} {n : Nat} {v : AV} {fl : Fl}

theorem notDbg_out {x : Str} {p : Pos} (h : notDbg (.Name x p) = true) : (x == ("__debug__" : Str)) = false := by
  cases e : (x == ("__debug__" : Str)) with
  | false => rfl
  | true => exact absurd (se_iff.mpr (eq_of_beq e)) (by rw [not_t h]; exact fun h => nomatch h)
theorem one_out {α : Type} {l : List α} {a : α} (h : one l = some a) : l = [a] := by
  cases l with
  | nil => exact no_el h
  | cons b r => cases r with
    | nil => exact congrArg (fun a => [a]) (Option.some.inj h)
    | cons _ _ => exact no_el h
theorem none?_out {α : Type} {l : List α} (h : none? l = true) : l = [] := by
  cases l with
  | nil => rfl
  | cons b r => exact nomatch h
theorem asg1_el {P : Stmt → Prop} {s : Stmt} {t e : Expr} (h : asg1 s = some (t, e)) (k : ∀ p, P (.Assign [t] e p)) : P s := by
  cases s with
  | Assign ts e p =>
    cases ts with
    | nil => exact no_el h
    | cons t r => cases r with
      | nil => exact sm2e (Q := fun t e => (∀ p, P (.Assign [t] e p)) → P (.Assign [_] _ p)) h (fun k => k p) k
      | cons _ _ => exact no_el h
  | _ => exact no_el h
theorem callE_el {P : Expr → Prop} {x f : Expr} {as : List Expr} {q : Pos} (h : callE x = some (f, as, q)) (k : P (.Call f as [] q)) : P x := by
  cases x with
  | Call f as ks q => cases ks with
    | nil => exact sm3e (Q := fun f as q => P (.Call f as [] q) → P (.Call _ _ [] _)) h (fun k => k) k
    | cons _ _ => exact no_el h
  | _ => exact no_el h
theorem attrE_el {P : Expr → Prop} {x o : Expr} {n : Str} {p : Pos} (h : attrE x = some (o, n, p)) (k : P (.Attribute o n p)) : P x := by
  cases x with
  | Attribute o n p => exact sm3e (Q := fun o n p => P (.Attribute o n p) → P (.Attribute _ _ _)) h (fun k => k) k
  | _ => exact no_el h
theorem nameE_el {P : Expr → Prop} {x : Expr} {n : Str} (h : nameE x = some n) (k : ∀ p, P (.Name n p)) : P x := by
  cases x with
  | Name m p => exact Option.some.inj h ▸ k p
  | _ => exact no_el h
theorem askTwo_el {x y : Nat} {S : Stmt} {P : Stmt → Prop} (h : askTwo ns x S = some y) (k : ∀ yn yp fp xn xp cp sp, slot yn 0 ns = some (y, .local) → slot xn 0 ns = some (x, .local) → isGlobal ns "next" = true → (xn == ("__debug__" : Str)) = false → P (.Assign [.Name yn yp] (.Call (.Name "next" fp) [.Name xn xp] [] cp) sp)) : P S := by
  refine ob2_el h fun t e h1 h => ob3_el h fun g as q h2 h => ob_el h fun f h3 h => ob_el h fun a h4 h => ob_el h fun y h5 h => ob_el h fun x' h6 h => cnd_el h fun hc h => ?_
  obtain rfl := Option.some.inj h
  obtain ⟨hc, h10⟩ := and_t hc
  obtain ⟨hc, h9⟩ := and_t hc
  obtain ⟨h7, h8⟩ := and_t hc
  obtain rfl := se_iff.mp h7
  obtain rfl := beq_t h9
  obtain rfl := one_out h4
  obtain ⟨yn, yp, rfl, hy⟩ := nameLoc_out h5
  obtain ⟨xn, xp, rfl, hx⟩ := nameLoc_out h6
  exact asg1_el h1 fun p => callE_el (P := fun e => P (.Assign [_] e p)) h2 (nameE_el (P := fun g => P (.Assign [_] (.Call g _ [] q) p)) h3 fun fp => k yn yp fp xn xp q p hy hx h8 (notDbg_out h10))
theorem or_f {a b : Bool} (e : (a || b) = false) : a = false ∧ b = false := by
  cases a with
  | true => exact nomatch e
  | false => exact ⟨rfl, e⟩
theorem cnd_f {α : Type} {c : Bool} {x : Option α} {y : α} {P : Prop} (e : cond c none x = some y) (h : c = false → x = some y → P) : P := by
  cases c with
  | true => exact no_el e
  | false => exact h rfl e
theorem asRooms_el {m : Nat} {S S' S'' : Stmt} {t : AS} {P : Stmt → AS → Prop} (h : asRooms (cv m ns) ns S S' S'' = some t) (k : ∀ xn xp o o' p q sp x y z, slot xn 0 ns = some (x, .local) → Cv ns o o' → notSuper o = true → (p.endLine == q.line) = true →
    askTwo ns x S' = some y → askTwo ns x S'' = some z → x ≠ y → P (.Assign [.Name xn xp] (.Call (.Attribute o "_maxlengths" p) [] [] q) sp) (.rooms x y z o')) : P S t := by
  refine ob2_el h fun T e h1 h => ob3_el h fun g as q h2 h => ob3_el h fun o n p h3 h => cnd_el h fun h4 h => cnd_el h fun hc h => ob_el h fun x h5 h => ob_el h fun o' h6 h => ob_el h fun y h7 h => ob_el h fun z h8 h => cnd_f h fun hb h => ?_
  obtain rfl := Option.some.inj h
  obtain ⟨hc, h11⟩ := and_t hc
  obtain ⟨h9, h10⟩ := and_t hc
  obtain rfl := se_iff.mp h9
  obtain rfl := none?_out h4
  obtain ⟨xn, xp, rfl, hx⟩ := nameLoc_out h5
  exact asg1_el (P := fun s => P s _) h1 fun sp => callE_el (P := fun e => P (.Assign [_] e sp) _) h2 (attrE_el (P := fun g => P (.Assign [_] (.Call g [] [] q) sp) _) h3 (k xn xp o o' p q sp x y z hx ⟨m, h6⟩ h11 (beq_iff_eq.mpr (beq_t h10)) h7 h8 (Nat.ne_of_beq_eq_false (or_f (or_f hb).1).1)))

theorem next_ok (C : COk cx) (L : Leaf cx θ) (Fr : Frm θ cx env ns F ρ s) (S : St cx θ ρ H s) {yn xn : Str} {yp fp xp cp sp : Pos} {y x : Nat} {g : Value} {p : AV} {P : Unit → Shared → Prop} (hy : slot yn 0 ns = some (y, .local)) (hx : slot xn 0 ns = some (x, .local)) (hg : isGlobal ns "next" = true) (hd : (xn == ("__debug__" : Str)) = false)
    (hh : Has s env.locals xn g)
    (hX : ∀ b ∈ X, b ≠ env.locals) (call : Tri cx A (PySem.call (.builtin "next") [g] []) s fun y s₃ => Lk cx X ρ s ρ s₃ ∧ St cx θ ρ H s₃ ∧ VRel θ ρ p y ∧ P () s₃)
    {Q : Flow → Shared → Prop} (k : ∀ s₃ s₄, P () s₃ → Lk cx X ρ s ρ s₃ → Lk cx [env.locals] ρ s₃ ρ s₄ → St cx θ ρ H s₄ → Frm θ cx env ns (F.store y p) ρ s₄ → (∀ z w, z ≠ yn → Has s₃ env.locals z w → Has s₄ env.locals z w) → Heap.SameBut env.locals s₃.heap s₄.heap → s₄.gens = s₃.gens → Q .next s₄) :
    Tri cx A (exec (.Assign [.Name yn yp] (.Call (.Name "next" fp) [.Name xn xp] [] cp) sp) env) s Q := by
  refine wpAny_Assign_Name ?_ rfl
  refine wpAny_Call_ofName (builtin_load C Fr S hg (by decide +kernel) L.gnext.1 L.gnext.2 ?_)
  refine callWith_at rfl (fun M h _ => ⟨.machine, .inr (.inl rfl), Looks.of_pure rfl⟩) ?_
  refine wpAny_items_cons (wpAny_Name (let ⟨m, hn, hw⟩ := hh; wpAny_loadName_local Fr.kind ((Fr.names xn _ _ hx).resolve_right fun e => nomatch e.1) hn hw ?_) hd) rfl
  refine wpAny_items_nil ⟨C.K.keeps S.base, ?_⟩
  refine Tri.mono call fun z s₃ ⟨l₃, S₃, v₃, p₃⟩ => ?_
  exact store_ok2 S₃ (Fr.step C l₃ fun h => hX _ h rfl) hy v₃ fun s₄ l₄ S₄ Fr₄ _ hhas hsb hge => k s₃ s₄ p₃ l₃ l₄ S₄ Fr₄ hhas hsb hge

theorem rooms_tail (C : COk cx) (L : Leaf cx θ) (Fr : Frm θ cx env ns F ρ s) (S : St cx θ ρ H s) {xn yn zn : Str} {yp zp fp fp' : Pos} {xq yq : Pos} {cp cp' sp sp' : Pos} {x y z : Nat} {g : Value} {p q : AV} {G : Nat → Shared → Prop} {Ss : List Stmt} {Q : Flow → Shared → Prop}
    (hx : slot xn 0 ns = some (x, .local)) (hy : slot yn 0 ns = some (y, .local)) (hz : slot zn 0 ns = some (z, .local)) (hg : isGlobal ns "next" = true) (hd : (xn == ("__debug__" : Str)) = false) (hX : ∀ b ∈ X, b ≠ env.locals) (hxy : xn ≠ yn) (h₃ : Has s env.locals xn g)
    (keepG : ∀ {k s₂ s₃}, Heap.SameBut env.locals s₂.heap s₃.heap → s₃.gens = s₂.gens → G k s₂ → G k s₃) (g₀ : G 0 s)
    (n0 : ∀ {s}, G 0 s → St cx θ ρ H s → Tri cx A (PySem.call (.builtin "next") [g] []) s fun y s₃ => Lk cx X ρ s ρ s₃ ∧ St cx θ ρ H s₃ ∧ VRel θ ρ p y ∧ G 1 s₃)
    (n1 : ∀ {s}, G 1 s → St cx θ ρ H s → Tri cx A (PySem.call (.builtin "next") [g] []) s fun y s₃ => Lk cx X ρ s ρ s₃ ∧ St cx θ ρ H s₃ ∧ VRel θ ρ q y)
    (k : ∀ s', Lk cx (env.locals :: X) ρ s ρ s' → St cx θ ρ H s' → Frm θ cx env ns ((F.store y p).store z q) ρ s' → Tri cx A (execs Ss env) s' Q) :
    Tri cx A (execs (.Assign [.Name yn yp] (.Call (.Name "next" fp) [.Name xn xq] [] cp) sp :: .Assign [.Name zn zp] (.Call (.Name "next" fp') [.Name xn yq] [] cp') sp' :: Ss) env) s Q := by
  refine wpAny_execs_cons (next_ok C L Fr S (P := fun _ s => G 1 s) hy hx hg hd h₃ hX (n0 g₀ S) fun s₄ s₅ g₄ l₄ l₅ S₅ Fr₅ has₅ hs₅ hg₅ => ?_)
  have h₄ : Has s₄ env.locals xn g := h₃.step fun o e => l₄.keep.heap _ o e (fun h => (List.mem_append.mp h).elim (fun h => hX _ h rfl) Fr.nin) fun h => Nat.lt_irrefl _ (Nat.lt_of_lt_of_le (C.tabs _ h) Fr.old)
  refine wpAny_execs_cons (next_ok C L Fr₅ S₅ (P := fun _ _ => True) hz hx hg hd (has₅ _ _ hxy h₄) hX (Tri.mono (n1 (keepG hs₅ hg₅ g₄) S₅) fun y s₄ ⟨a, b, c⟩ => ⟨a, b, c, trivial⟩) fun s₆ s₇ _ l₆ l₇ S₇ Fr₇ _ _ _ => ?_)
  have toL : ∀ {a b}, Lk cx [env.locals] ρ a ρ b → Lk cx (env.locals :: X) ρ a ρ b := fun l => l.wide fun z hz => List.mem_singleton.mp hz ▸ .head _
  have toX : ∀ {a b}, Lk cx X ρ a ρ b → Lk cx (env.locals :: X) ρ a ρ b := fun l => l.wide fun z hz => .tail _ hz
  exact k s₇ ((toX l₄).trans ((toL l₅).trans ((toX l₆).trans (toL l₇)))) S₇ Fr₇
theorem rooms_step (C : COk cx) (L : Leaf cx θ) (h8 : 8 ≤ n) (ev : EvOk cx θ f n) {fnAt : Nat → Option FnI} : RoomsOk cx θ (step fnAt f) (n + 8) := by
  intro A env ns F ρ H s m S S' S'' Ss t fl F' H' Q hA Fr St hs he k
  have hA' : AOk A n := hA.le (Nat.le_add_right n 8)
  refine asRooms_el (P := fun S t => stepEx f F H t = some (fl, F', H') → Tri cx A (execs (S :: S' :: S'' :: Ss) env) s Q) hs (fun xn xp o o' p q sp x y z hx ho hsup hl h1 h2 hxy he => ?_) he
  refine askTwo_el (P := fun S' => Tri cx A (execs (_ :: S' :: S'' :: Ss) env) s Q) h1 fun yn yp fp xn1 yq cp sp1 hy hx1 hg hd => ?_
  refine askTwo_el (P := fun S'' => Tri cx A (execs (_ :: _ :: S'' :: Ss) env) s Q) h2 fun zn zp fp2 xn2 zq cp2 sp2 hz hx2 _ _ => ?_
  obtain rfl := slot_inj hx1 hx
  obtain rfl := slot_inj hx2 hx
  refine ob2_el he fun u H₁ h3 he => ob_el he fun pr h4 he => ?_
  obtain ⟨rfl, rfl, rfl⟩ := sm3 he
  refine wpAny_execs_cons (wpAny_Assign_Name ?_ rfl)
  rw [arm_eval_Call, base_of hsup]
  refine wpAny_bind (Tri.mono (ev hA' Fr St ho h3) fun w s₁ ⟨ρ₁, l₁, S₁, v₁⟩ => wpAny_bind (wpAny_standAt ?_))
  unfold methodCall
  have hform : methodCallForm (([] : List Expr).length + ([] : List Keyword).length) (backTo q (starEach [] env)) (backToKw q (keywordEach [] env)) = true := rfl
  rw [hform]
  refine wpAny_bind (wpAny_holding (Tri.mono (L.meet S₁ v₁ h4) fun r t₀ hr => ?_))
  obtain ⟨rfl, rfl⟩ := hr
  refine wpAny_bind (wpAny_of_eq (a := q) (by unfold methodCallPos; rw [hl]; rfl) ?_)
  refine callWith_at rfl L.keep77 (wpAny_items_nil ⟨C.K.keeps S₁.base, ?_⟩)
  refine Tri.mono (L.rooms (hA'.le h8) S₁ v₁ h4) fun g s₂ ⟨G, X, hX, l₂, S₂, g₂, hG, n0, n1⟩ => ?_
  have Fr₂ := (Fr.step0 C l₁).step0 C l₂
  have hLs : env.locals < t₀.heap.objs.size := let ⟨m₀, hn₀, _⟩ := (Fr.step0 C l₁).loc; hn₀.lt
  have hLX : ∀ b ∈ X, b ≠ env.locals := fun b hb e => Nat.lt_irrefl _ (Nat.lt_of_lt_of_le hLs (e ▸ hX b hb))
  have keepG : ∀ {k s₂ s₃}, Heap.SameBut env.locals s₂.heap s₃.heap → s₃.gens = s₂.gens → G k s₂ → G k s₃ := fun hs hge g => hG _ _ _ g (fun b o hb e => (hs.2 b fun z => Nat.lt_irrefl _ (Nat.lt_of_lt_of_le hLs (z ▸ hb))).trans e) hge
  refine store_ok2 S₂ Fr₂ hx (v := .script) trivial fun s₃ l₃ S₃ Fr₃ h₃ _ hs₃ hg₃ => ?_
  refine rooms_tail (G := G) C L Fr₃ S₃ hx hy hz hg hd hLX (fun e => by subst e; rw [hx] at hy; cases hy; exact hxy rfl) h₃ keepG (keepG hs₃ hg₃ g₂) n0 n1 fun s₇ l S₇ Fr₇ => k s₇ rfl ⟨ρ₁, (l₁.wide0.trans (l₂.wide0.trans ((l₃.wide fun z hz => List.mem_singleton.mp hz ▸ .head _).trans l))).less fun z hz => ?_, S₇, Fr₇⟩
  rcases List.mem_cons.mp hz with rfl | hz
  · exact .inl (.head _)
  · exact .inr (Nat.le_trans l₁.keep.grow (hX z hz))
end
end Mine
namespace Mine
open PySem PySem.W PyProof.Rows PySem.Calls

/-- a def as the heap holds it -/
structure FnOk (cx : Cx) (a : Nat) (dflt : List AV) (ar : Arguments) (b : List Stmt) (sc : Scope) : Prop where
  df : dflt = [] ∨ dflt = [.none]
  obj : ∃ o fd, cx.h₀.get? a = some o ∧ o.data = .func fd ∧ fd.body = .stmts b ∧ fd.scope = sc ∧ fd.closure = [] ∧ fd.globals = mainGlobals ∧ fd.builtins = builtinsNs ∧ codeIn cx.K fd.code fd.qualname = true ∧
    ∀ (s : Shared) (vals dv : List Value), (∀ b o, cx.h₀.get? b = some o → s.heap.get? b = some o) → vals.length + dv.length = ar.args.length → (dv = [] ∨ dflt = [.none] ∧ dv = [.none]) → BindsTo s fd ⟨vals, []⟩ ((ar.args.map (·.arg)).zip (vals ++ dv))
  co : sc.isCoroutine = false
  gen : sc.isGenerator = false
  cell : ∀ x ∈ sc.names, x.2 ≠ .cell

section
variable {cx : Cx} {θ : Th} {X ρ ρ' : List Addr} {H H' : AH} {s s' s'' : Shared} {A : Around} {env : Env} {ns : Names} {F F' : AF} {f : Fns} {n : Nat} {v : AV} {fl : Fl}

theorem All2.at {α β : Type} {R : α → β → Prop} {as : List α} {bs : List β} (h : All2 R as bs) : ∀ {i : Nat} {u : α}, as[i]? = some u → ∃ y, bs[i]? = some y ∧ R u y := by
  induction h with
  | nil => exact fun e => no_el e
  | cons h _ ih =>
    intro i u e
    cases i with
    | zero => exact ⟨_, rfl, Option.some.inj e ▸ h⟩
    | succ i => exact ih (i := i) e
theorem fillT_old {vs : List AV} : ∀ {m : Nat} {t : Tr AV} {j : Nat}, j < m → m + vs.length + 1 < 2 ^ 10 → (fillT m vs t).get j = t.get j := by
  induction vs with
  | nil => exact fun _ _ => rfl
  | cons v vs ih =>
    intro m t j h hl
    refine (ih (Nat.lt_succ_of_lt h) (Nat.lt_of_le_of_lt (Nat.le_of_eq (congrArg Nat.succ (Nat.succ_add m _))) hl)).trans ((Tr.get_put v 10 t m j (Nat.lt_of_le_of_lt (Nat.succ_le_succ (Nat.le_add_right m _)) hl)).trans (if_neg (Nat.ne_of_lt h)))
theorem fillT_get {vs : List AV} {u : AV} : ∀ {m : Nat} {t : Tr AV} {i : Nat}, m + vs.length + 1 < 2 ^ 10 → (∀ j, m ≤ j → t.get j = none) → (fillT m vs t).get (m + i) = some u → vs[i]? = some u := by
  induction vs with
  | nil => exact fun _ h e => no_el ((h _ (Nat.le_add_right _ _)).symm.trans e)
  | cons v vs ih =>
    intro m t i hl h e
    have put := fun j => Tr.get_put v 10 t m j (Nat.lt_of_le_of_lt (Nat.succ_le_succ (Nat.le_add_right m _)) hl)
    have hl' := Nat.lt_of_le_of_lt (Nat.le_of_eq (congrArg Nat.succ (Nat.succ_add m vs.length))) hl
    cases i with
    | zero => exact ((if_pos rfl).symm.trans (put m).symm).trans ((fillT_old (Nat.lt_succ_self m) hl').symm.trans e)
    | succ i => exact ih hl' (fun j hj => (put j).trans ((if_neg (Nat.ne_of_gt hj)).trans (h j (Nat.le_of_lt hj)))) ((congrArg (fun n => (fillT (m + 1) vs (t.put 10 m v)).get n) (Nat.succ_add m i)).trans e)

theorem paramsAt_out {ns : Names} {as : List Arg} : ∀ {k : Nat}, paramsAt k as ns = true → ∀ j a, as[j]? = some a → slot a.arg 0 ns = some (k + j, .local) := by
  induction as with
  | nil => exact fun _ _ _ e => no_el e
  | cons a r ih =>
    intro k h j b e
    cases hs : slot a.arg 0 ns with
    | none => rw [paramsAt, hs] at h; exact nomatch h
    | some p =>
      obtain ⟨i, q⟩ := p
      rw [paramsAt, hs] at h
      cases q with
      | «local» =>
        obtain ⟨h1, h2⟩ := and_t h
        obtain rfl := beq_t h1
        cases j with
        | zero => exact Option.some.inj e ▸ hs
        | succ j => exact (ih h2 j b e).trans (congrArg (fun n => some (n, NameKind.local)) (Nat.succ_add i j))
      | _ => exact nomatch h

theorem lookup_of_mem {α : Type} {x : Str} {v : α} {l : List (Str × α)} : (x, v) ∈ l → (∀ u, (x, u) ∈ l → u = v) → l.lookup x = some v := by
  induction l with
  | nil => exact fun h => nomatch h
  | cons p r ih =>
    obtain ⟨y, u⟩ := p
    intro h hu
    by_cases hx : x = y
    · obtain rfl := hx
      exact lookup_self.trans (congrArg some (hu u (.head _)))
    · refine (lookup_of_ne hx).trans (ih ((List.mem_cons.mp h).elim (fun e => absurd (Prod.mk.inj e).1 hx) id) fun w m => hu w (.tail _ m))

theorem binds_lookup {ns : Names} {as : List Arg} {vals : List Value} (h : paramsAt 0 as ns = true) {x : Str} {i : Nat} {y : Value} (hx : slot x 0 ns = some (i, .local)) (hi : i < as.length) (hy : vals[i]? = some y) :
    ((as.map (·.arg)).zip vals).reverse.lookup x = some y := by
  have ha := List.getElem?_eq_getElem hi
  generalize as[i] = a at ha
  have hs := (paramsAt_out h i a ha).trans (congrArg (fun n => some (n, NameKind.local)) (Nat.zero_add i))
  obtain rfl := slot_inj hx hs
  refine lookup_of_mem (List.mem_reverse.mpr (List.mem_iff_getElem?.mpr ⟨i, List.getElem?_zip_eq_some.mpr ⟨by rw [List.getElem?_map, ha]; rfl, hy⟩⟩)) fun u m => ?_
  obtain ⟨j, hj⟩ := List.mem_iff_getElem?.mp (List.mem_reverse.mp m)
  obtain ⟨h1, h2⟩ := List.getElem?_zip_eq_some.mp hj
  rw [List.getElem?_map] at h1
  obtain ⟨b, hb, hba⟩ := Option.map_eq_some_iff.mp h1
  have h3 := paramsAt_out h j b hb
  rw [hba, hx, Nat.zero_add] at h3
  obtain rfl := (Prod.mk.inj (Option.some.inj h3)).1
  exact Option.some.inj (h2.symm.trans hy)

theorem retOf_out {r : Option (Fl × AF × AH)} (e : retOf r = some (v, H')) : ∃ fl F', r = some (fl, F', H') ∧ (fl = .ret v ∨ fl = .next ∧ v = .none) := by
  refine ob3_el e fun fl F' H h e => ?_
  cases fl with
  | ret w => obtain ⟨rfl, rfl⟩ := sm2 e; exact ⟨_, _, h, .inl rfl⟩
  | next => obtain ⟨rfl, rfl⟩ := sm2 e; exact ⟨_, _, h, .inr ⟨rfl, rfl⟩⟩
  | _ => exact no_el e

theorem defAt_mem {a : Nat} {p : List AV × Option (Arguments × List Stmt × Scope)} {l : List (Nat × List AV × Option (Arguments × List Stmt × Scope))} : defAt a l = some p → (a, p) ∈ l := by
  induction l with
  | nil => exact fun h => no_el h
  | cons q r ih =>
    obtain ⟨b, q⟩ := q
    intro h
    cases hb : Nat.beq a b with
    | true => rw [defAt, hb] at h; exact Option.some.inj h ▸ beq_t hb ▸ .head _
    | false => rw [defAt, hb] at h; exact .tail _ (ih h)
theorem fullArgs_ok {args : List AV} {vals : List Value} {np : Nat} {d : List AV} (hdf : d = [] ∨ d = [.none]) (hv : All2 (VRel θ ρ) args vals) : ∃ dv, (dv = [] ∨ d = [.none] ∧ dv = [.none]) ∧ All2 (VRel θ ρ) (fullArgs np d args) (vals ++ dv) := by
  unfold fullArgs
  cases Nat.blt args.length np with
  | false => exact ⟨[], .inl rfl, (List.append_nil vals).symm ▸ hv⟩
  | true =>
    rcases hdf with rfl | rfl
    · exact ⟨[], .inl rfl, hv.append .nil⟩
    · exact ⟨[.none], .inr ⟨rfl, rfl⟩, hv.append (.cons rfl .nil)⟩
theorem args_lt {ns : Names} {as : List Arg} (h : paramsAt 0 as ns = true) (hl : ns.length < 1000) : as.length + 1 < 2 ^ 10 := by
  by_cases h0 : as.length = 0
  · rw [h0]; decide
  · have hi : as.length - 1 < as.length := Nat.sub_lt (Nat.pos_of_ne_zero h0) Nat.one_pos
    have := slot_lt (paramsAt_out h _ _ (List.getElem?_eq_getElem hi))
    omega

theorem binds_mem {ns : Names} {as : List Arg} {vals : List Value} (h : paramsAt 0 as ns = true) {p : Str × Value} (hx : p ∈ (as.map (·.arg)).zip vals) : ns.lookup p.1 = some .local := by
  obtain ⟨j, hj⟩ := List.mem_iff_getElem?.mp hx
  have h1 := (List.getElem?_zip_eq_some.mp hj).1
  rw [List.getElem?_map] at h1
  obtain ⟨b', hb', hb⟩ := Option.map_eq_some_iff.mp h1
  exact hb ▸ slot_lookup (paramsAt_out h j b' hb')
theorem less0 {a : Addr} (l : Lk cx [a] ρ s ρ' s') (h : s.heap.objs.size ≤ a) : Lk cx [] ρ s ρ' s' := l.less fun _ hz => .inr (List.mem_singleton.mp hz ▸ h)

theorem call_step (C : COk cx) (hf : ∀ p ∈ defs, ∀ ar b sc, p.2.2 = some (ar, b, sc) → FnOk cx p.1 p.2.1 ar b sc) (exs : ExsOk cx θ f n) : CallOk cx θ (step fnAt f) (n + 8) := by
  intro A ρ H s a args vals v H' hA S hv e
  refine ob_el e fun i hi e => ob_el hi fun p hp hi => ?_
  obtain ⟨dfl, _ | ⟨ar, b, sc⟩⟩ := p
  · exact no_el hi
  refine ob_el hi fun body hb hi => cnd_el hi fun hck hi => ?_
  obtain rfl := Option.some.inj hi
  obtain ⟨hck, hlen⟩ := and_t hck
  obtain ⟨hck, hpar⟩ := and_t hck
  have hk := isFn_out' (and_t hck).1
  have hlen := Nat.blt_eq.mp hlen
  have D := hf _ (defAt_mem hp) ar b sc rfl
  obtain ⟨o, fd, ho, hdata, hbody, hsc, hclo, hglob, hblt, hcode, hbind⟩ := D.obj
  refine cnd_el e fun hn e => ?_
  have hn := beq_t hn
  obtain ⟨fl, F', he, hfl⟩ := retOf_out e
  -- the values handed, with what is put in
  obtain ⟨dv, hdv, hfull⟩ := fullArgs_ok (np := ar.args.length) D.df hv
  have hl : vals.length + dv.length = ar.args.length := List.length_append.symm.trans (hfull.length.symm.trans hn)
  obtain ⟨loose, T⟩ := C.top
  subst hsc
  have hA' : AOk A (n + 1) := hA.le (Nat.add_le_add_left (by decide) n)
  have hargs := args_lt hpar hlen
  have hn : (fullArgs ar.args.length dfl args).length = ar.args.length := hn
  have hroom : 0 + (fullArgs ar.args.length dfl args).length + 1 < 2 ^ 10 := by rw [Nat.zero_add, hn]; exact hargs
  have he : f.exs ⟨fillT 0 (fullArgs ar.args.length dfl args) .nil, []⟩ H body = some (fl, F', H') := he
  generalize fullArgs ar.args.length dfl args = full at hfull hn he hroom
  refine codeAny_call_def hA.room (S.base _ _ ho) hdata (T.nolimit.keeps S.base) (codeRec_of (C.K.keeps S.base) hcode) hbody (hbind s vals dv S.base hl hdv) D.cell (fun x hx => binds_mem hpar hx) (fun h₀ hns hkeep => ?_) D.co D.gen hk
  have hsz : s.heap.objs.size ≤ h₀.objs.size := Nat.le_of_lt hns.lt
  have Fr₀ : Frm θ cx (callEnv fd s.heap.objs.size a) fd.scope.names ⟨fillT 0 full .nil, []⟩ ρ { s with heap := h₀, toks := s.toks + ((ar.args.map (·.arg)).zip (vals ++ dv)).length } :=
    ⟨hk, fun x i k hs => .inl (slot_lookup hs), Nat.lt_of_le_of_lt hlen (by decide), hglob, hblt, fun m => Nat.lt_irrefl _ (S.lt _ m), S.size, ⟨_, hns, fun x i u hs hu => by
      have hu := fillT_get (m := 0) (t := .nil) (i := i) hroom (fun _ _ => rfl) ((congrArg (Tr.get (fillT 0 full .nil)) (Nat.zero_add i)).trans hu)
      obtain ⟨y, hy, hr⟩ := hfull.at hu
      exact ⟨y, binds_lookup hpar hs (hn ▸ (List.getElem?_eq_some_iff.mp hu).1) hy, hr⟩⟩, fun x i k j _ hj => no_el hj⟩
  refine wpAny_mono (exs (hA'.deeper _) Fr₀ (S.frame hkeep S.bare hsz) (Css.of_body hb) he) (fun x s' q => ?_) fun _ _ e => e.elim
  obtain ⟨ρ₁, l₁, S₁, hx, _⟩ := q
  have l₀ : Lk cx [] ρ s ρ { s with heap := h₀, toks := s.toks + ((ar.args.map (·.arg)).zip (vals ++ dv)).length } := Lk.of_all hkeep rfl hsz
  have l : Lk cx [s.heap.objs.size] ρ s ρ₁ s' := l₀.wide0.trans l₁
  have l : Lk cx [] ρ s ρ₁ s' := less0 l (Nat.le_refl _)
  rcases hfl with rfl | ⟨rfl, rfl⟩
  · obtain ⟨y, rfl, hy⟩ := hx
    exact ⟨ρ₁, l, S₁, hy⟩
  · exact (show x = .next from hx) ▸ ⟨ρ₁, l, S₁, rfl⟩
end
end Mine
namespace Mine
open PySem PySem.W PyProof.Rows PySem.Calls

structure Snd (cx : Cx) (θ : Th) (f : Fns) (n : Nat) : Prop where
  ev : EvOk cx θ f n
  tr : TrOk cx θ f n
  ex : ExOk cx θ f n
  exs : ExsOk cx θ f n
  rooms : RoomsOk cx θ f n
  loop : LoopOk cx θ f n
  call : CallOk cx θ f n
  comp : CompOk cx θ f n
  items : ItemsOk cx θ f n
  use : UseOk cx θ f n

theorem snd_bot (cx : Cx) (θ : Th) (n : Nat) : Snd cx θ botF n where
  ev := fun _ _ _ _ e => no_el e
  tr := fun _ _ _ _ e => no_el e
  ex := fun _ _ _ _ e => no_el e
  exs := fun _ _ _ _ e => no_el e
  rooms := fun _ _ _ _ e => no_el e
  loop := fun _ _ _ _ _ _ _ e => no_el e
  call := fun _ _ _ e => no_el e
  comp := fun _ _ _ _ _ _ e => no_el e
  items := fun _ _ _ _ _ _ _ _ _ e => no_el e
  use := fun _ _ _ _ e => no_el e

theorem snd_step {cx : Cx} {θ : Th} (C : COk cx) (L : Leaf cx θ) (O : θ.Ok) (hf : ∀ p ∈ defs, ∀ ar b sc, p.2.2 = some (ar, b, sc) → FnOk cx p.1 p.2.1 ar b sc) {f : Fns} {n : Nat} (h8 : 8 ≤ n) (h : Snd cx θ f n) : Snd cx θ (step fnAt f) (n + 8) where
  ev := ev_step C L O h8 h.ev h.tr h.call h.items
  tr := tr_step C L h8 h.ev h.tr
  ex := ex_step C L O h8 h.ev h.tr h.use h.exs h.loop
  exs := exs_step h.ex h.exs h.rooms
  rooms := rooms_step C L h8 h.ev
  loop := loop_step C L h8 h.exs h.loop
  call := call_step C hf h.exs
  comp := fun hA Fr S he hD hg e => comp_step C L h8 h.ev h.items (hA.le (Nat.le_add_right n 8)) Fr S he hD hg e
  items := fun hA Fr S he hD hd hg hr hi e => items_step C L h8 h.tr h.comp h.items (hA.le (Nat.le_add_right n 8)) Fr S he hD hd hg hr hi e
  use := use_step C L h8 h.ev h.items

theorem snd {cx : Cx} {θ : Th} (C : COk cx) (L : Leaf cx θ) (O : θ.Ok) (hf : ∀ p ∈ defs, ∀ ar b sc, p.2.2 = some (ar, b, sc) → FnOk cx p.1 p.2.1 ar b sc) : ∀ k, Snd cx θ (run fnAt k) (8 * k + 8)
  | 0 => snd_bot cx θ _
  | k + 1 => snd_step C L O hf (Nat.le_add_left 8 _) (snd C L O hf k)
end Mine
namespace Mine
open PySem

/-! the shape of a text: one constructor a test -/
theorem dite_el {c : Prop} [Decidable c] {f : c → Bool} {P : Prop} (h : dite c f (fun _ => false) = true) (k : ∀ hc, f hc = true → P) : P := by
  by_cases hc : c
  · rw [dif_pos hc] at h; exact k hc h
  · rw [dif_neg hc] at h; exact nomatch h
noncomputable def isCall (u : _root_.PySem.Expr) (κ : _root_.PySem.Expr → List _root_.PySem.Expr → List Keyword → Pos → Bool) : Bool := dite (u.ctorIdx = 16) (fun h => _root_.PySem.Expr.Call.elim u h κ) fun _ => false
theorem isCall_el {P : Prop} {u : _root_.PySem.Expr} {κ : _root_.PySem.Expr → List _root_.PySem.Expr → List Keyword → Pos → Bool} (h : isCall u κ = true) (g : ∀ f as ks p, u = .Call f as ks p → κ f as ks p = true → P) : P :=
  dite_el h fun hc h => _root_.PySem.Expr.Call.elim (motive_1 := fun u => ∀ hc : u.ctorIdx = 16, _root_.PySem.Expr.Call.elim u hc κ = true → (∀ f as ks p, u = .Call f as ks p → κ f as ks p = true → P) → P) u hc (fun f as ks p _ h g => g f as ks p rfl h) hc h g
noncomputable def isAttribute (u : _root_.PySem.Expr) (κ : _root_.PySem.Expr → Str → Pos → Bool) : Bool := dite (u.ctorIdx = 20) (fun h => _root_.PySem.Expr.Attribute.elim u h κ) fun _ => false
theorem isAttribute_el {P : Prop} {u : _root_.PySem.Expr} {κ : _root_.PySem.Expr → Str → Pos → Bool} (h : isAttribute u κ = true) (g : ∀ o n p, u = .Attribute o n p → κ o n p = true → P) : P :=
  dite_el h fun hc h => _root_.PySem.Expr.Attribute.elim (motive_1 := fun u => ∀ hc : u.ctorIdx = 20, _root_.PySem.Expr.Attribute.elim u hc κ = true → (∀ o n p, u = .Attribute o n p → κ o n p = true → P) → P) u hc (fun o n p _ h g => g o n p rfl h) hc h g
noncomputable def isName (u : _root_.PySem.Expr) (κ : Str → Pos → Bool) : Bool := dite (u.ctorIdx = 23) (fun h => _root_.PySem.Expr.Name.elim u h κ) fun _ => false
theorem isName_el {P : Prop} {u : _root_.PySem.Expr} {κ : Str → Pos → Bool} (h : isName u κ = true) (g : ∀ x p, u = .Name x p → κ x p = true → P) : P :=
  dite_el h fun hc h => _root_.PySem.Expr.Name.elim (motive_1 := fun u => ∀ hc : u.ctorIdx = 23, _root_.PySem.Expr.Name.elim u hc κ = true → (∀ x p, u = .Name x p → κ x p = true → P) → P) u hc (fun x p _ h g => g x p rfl h) hc h g
noncomputable def isBinOp (u : _root_.PySem.Expr) (κ : _root_.PySem.Expr → Operator → _root_.PySem.Expr → Pos → Bool) : Bool := dite (u.ctorIdx = 2) (fun h => _root_.PySem.Expr.BinOp.elim u h κ) fun _ => false
theorem isBinOp_el {P : Prop} {u : _root_.PySem.Expr} {κ : _root_.PySem.Expr → Operator → _root_.PySem.Expr → Pos → Bool} (h : isBinOp u κ = true) (g : ∀ l op r p, u = .BinOp l op r p → κ l op r p = true → P) : P :=
  dite_el h fun hc h => _root_.PySem.Expr.BinOp.elim (motive_1 := fun u => ∀ hc : u.ctorIdx = 2, _root_.PySem.Expr.BinOp.elim u hc κ = true → (∀ l op r p, u = .BinOp l op r p → κ l op r p = true → P) → P) u hc (fun l op r p _ h g => g l op r p rfl h) hc h g
noncomputable def isSubscript (u : _root_.PySem.Expr) (κ : _root_.PySem.Expr → _root_.PySem.Expr → Pos → Bool) : Bool := dite (u.ctorIdx = 21) (fun h => _root_.PySem.Expr.Subscript.elim u h κ) fun _ => false
theorem isSubscript_el {P : Prop} {u : _root_.PySem.Expr} {κ : _root_.PySem.Expr → _root_.PySem.Expr → Pos → Bool} (h : isSubscript u κ = true) (g : ∀ o i p, u = .Subscript o i p → κ o i p = true → P) : P :=
  dite_el h fun hc h => _root_.PySem.Expr.Subscript.elim (motive_1 := fun u => ∀ hc : u.ctorIdx = 21, _root_.PySem.Expr.Subscript.elim u hc κ = true → (∀ o i p, u = .Subscript o i p → κ o i p = true → P) → P) u hc (fun o i p _ h g => g o i p rfl h) hc h g
noncomputable def isTuple (u : _root_.PySem.Expr) (κ : List _root_.PySem.Expr → Nat → Pos → Bool) : Bool := dite (u.ctorIdx = 25) (fun h => _root_.PySem.Expr.Tuple.elim u h κ) fun _ => false
theorem isTuple_el {P : Prop} {u : _root_.PySem.Expr} {κ : List _root_.PySem.Expr → Nat → Pos → Bool} (h : isTuple u κ = true) (g : ∀ es k p, u = .Tuple es k p → κ es k p = true → P) : P :=
  dite_el h fun hc h => _root_.PySem.Expr.Tuple.elim (motive_1 := fun u => ∀ hc : u.ctorIdx = 25, _root_.PySem.Expr.Tuple.elim u hc κ = true → (∀ es k p, u = .Tuple es k p → κ es k p = true → P) → P) u hc (fun es k p _ h g => g es k p rfl h) hc h g
noncomputable def isConstant (u : _root_.PySem.Expr) (κ : Const → Nat → Pos → Bool) : Bool := dite (u.ctorIdx = 19) (fun h => _root_.PySem.Expr.Constant.elim u h κ) fun _ => false
theorem isConstant_el {P : Prop} {u : _root_.PySem.Expr} {κ : Const → Nat → Pos → Bool} (h : isConstant u κ = true) (g : ∀ c k p, u = .Constant c k p → κ c k p = true → P) : P :=
  dite_el h fun hc h => _root_.PySem.Expr.Constant.elim (motive_1 := fun u => ∀ hc : u.ctorIdx = 19, _root_.PySem.Expr.Constant.elim u hc κ = true → (∀ c k p, u = .Constant c k p → κ c k p = true → P) → P) u hc (fun c k p _ h g => g c k p rfl h) hc h g
noncomputable def isCompare (u : _root_.PySem.Expr) (κ : _root_.PySem.Expr → List CmpOp → List _root_.PySem.Expr → Pos → Bool) : Bool := dite (u.ctorIdx = 15) (fun h => _root_.PySem.Expr.Compare.elim u h κ) fun _ => false
theorem isCompare_el {P : Prop} {u : _root_.PySem.Expr} {κ : _root_.PySem.Expr → List CmpOp → List _root_.PySem.Expr → Pos → Bool} (h : isCompare u κ = true) (g : ∀ l ops rs p, u = .Compare l ops rs p → κ l ops rs p = true → P) : P :=
  dite_el h fun hc h => _root_.PySem.Expr.Compare.elim (motive_1 := fun u => ∀ hc : u.ctorIdx = 15, _root_.PySem.Expr.Compare.elim u hc κ = true → (∀ l ops rs p, u = .Compare l ops rs p → κ l ops rs p = true → P) → P) u hc (fun l ops rs p _ h g => g l ops rs p rfl h) hc h g
noncomputable def isGeneratorExp (u : _root_.PySem.Expr) (κ : _root_.PySem.Expr → List Comprehension → Scope → Pos → Bool) : Bool := dite (u.ctorIdx = 11) (fun h => _root_.PySem.Expr.GeneratorExp.elim u h κ) fun _ => false
theorem isGeneratorExp_el {P : Prop} {u : _root_.PySem.Expr} {κ : _root_.PySem.Expr → List Comprehension → Scope → Pos → Bool} (h : isGeneratorExp u κ = true) (g : ∀ el gs sc p, u = .GeneratorExp el gs sc p → κ el gs sc p = true → P) : P :=
  dite_el h fun hc h => _root_.PySem.Expr.GeneratorExp.elim (motive_1 := fun u => ∀ hc : u.ctorIdx = 11, _root_.PySem.Expr.GeneratorExp.elim u hc κ = true → (∀ el gs sc p, u = .GeneratorExp el gs sc p → κ el gs sc p = true → P) → P) u hc (fun el gs sc p _ h g => g el gs sc p rfl h) hc h g
noncomputable def isYield (u : _root_.PySem.Expr) (κ : Option _root_.PySem.Expr → Pos → Bool) : Bool := dite (u.ctorIdx = 13) (fun h => _root_.PySem.Expr.Yield.elim u h κ) fun _ => false
theorem isYield_el {P : Prop} {u : _root_.PySem.Expr} {κ : Option _root_.PySem.Expr → Pos → Bool} (h : isYield u κ = true) (g : ∀ e p, u = .Yield e p → κ e p = true → P) : P :=
  dite_el h fun hc h => _root_.PySem.Expr.Yield.elim (motive_1 := fun u => ∀ hc : u.ctorIdx = 13, _root_.PySem.Expr.Yield.elim u hc κ = true → (∀ e p, u = .Yield e p → κ e p = true → P) → P) u hc (fun e p _ h g => g e p rfl h) hc h g
noncomputable def stReturn (u : _root_.PySem.Stmt) (κ : Option _root_.PySem.Expr → Pos → Bool) : Bool := dite (u.ctorIdx = 3) (fun h => _root_.PySem.Stmt.Return.elim u h κ) fun _ => false
theorem stReturn_el {P : Prop} {u : _root_.PySem.Stmt} {κ : Option _root_.PySem.Expr → Pos → Bool} (h : stReturn u κ = true) (g : ∀ e p, u = .Return e p → κ e p = true → P) : P :=
  dite_el h fun hc h => _root_.PySem.Stmt.Return.elim (motive_2 := fun u => ∀ hc : u.ctorIdx = 3, _root_.PySem.Stmt.Return.elim u hc κ = true → (∀ e p, u = .Return e p → κ e p = true → P) → P) u hc (fun e p _ h g => g e p rfl h) hc h g
noncomputable def stAssign (u : _root_.PySem.Stmt) (κ : List _root_.PySem.Expr → _root_.PySem.Expr → Pos → Bool) : Bool := dite (u.ctorIdx = 5) (fun h => _root_.PySem.Stmt.Assign.elim u h κ) fun _ => false
theorem stAssign_el {P : Prop} {u : _root_.PySem.Stmt} {κ : List _root_.PySem.Expr → _root_.PySem.Expr → Pos → Bool} (h : stAssign u κ = true) (g : ∀ ts e p, u = .Assign ts e p → κ ts e p = true → P) : P :=
  dite_el h fun hc h => _root_.PySem.Stmt.Assign.elim (motive_2 := fun u => ∀ hc : u.ctorIdx = 5, _root_.PySem.Stmt.Assign.elim u hc κ = true → (∀ ts e p, u = .Assign ts e p → κ ts e p = true → P) → P) u hc (fun ts e p _ h g => g ts e p rfl h) hc h g
noncomputable def stFor (u : _root_.PySem.Stmt) (κ : _root_.PySem.Expr → _root_.PySem.Expr → List _root_.PySem.Stmt → List _root_.PySem.Stmt → Pos → Bool) : Bool := dite (u.ctorIdx = 9) (fun h => _root_.PySem.Stmt.For.elim u h κ) fun _ => false
theorem stFor_el {P : Prop} {u : _root_.PySem.Stmt} {κ : _root_.PySem.Expr → _root_.PySem.Expr → List _root_.PySem.Stmt → List _root_.PySem.Stmt → Pos → Bool} (h : stFor u κ = true) (g : ∀ t it b o p, u = .For t it b o p → κ t it b o p = true → P) : P :=
  dite_el h fun hc h => _root_.PySem.Stmt.For.elim (motive_2 := fun u => ∀ hc : u.ctorIdx = 9, _root_.PySem.Stmt.For.elim u hc κ = true → (∀ t it b o p, u = .For t it b o p → κ t it b o p = true → P) → P) u hc (fun t it b o p _ h g => g t it b o p rfl h) hc h g
noncomputable def stWhile (u : _root_.PySem.Stmt) (κ : _root_.PySem.Expr → List _root_.PySem.Stmt → List _root_.PySem.Stmt → Pos → Bool) : Bool := dite (u.ctorIdx = 11) (fun h => _root_.PySem.Stmt.While.elim u h κ) fun _ => false
theorem stWhile_el {P : Prop} {u : _root_.PySem.Stmt} {κ : _root_.PySem.Expr → List _root_.PySem.Stmt → List _root_.PySem.Stmt → Pos → Bool} (h : stWhile u κ = true) (g : ∀ t b o p, u = .While t b o p → κ t b o p = true → P) : P :=
  dite_el h fun hc h => _root_.PySem.Stmt.While.elim (motive_2 := fun u => ∀ hc : u.ctorIdx = 11, _root_.PySem.Stmt.While.elim u hc κ = true → (∀ t b o p, u = .While t b o p → κ t b o p = true → P) → P) u hc (fun t b o p _ h g => g t b o p rfl h) hc h g
noncomputable def stIf (u : _root_.PySem.Stmt) (κ : _root_.PySem.Expr → List _root_.PySem.Stmt → List _root_.PySem.Stmt → Pos → Bool) : Bool := dite (u.ctorIdx = 12) (fun h => _root_.PySem.Stmt.If.elim u h κ) fun _ => false
theorem stIf_el {P : Prop} {u : _root_.PySem.Stmt} {κ : _root_.PySem.Expr → List _root_.PySem.Stmt → List _root_.PySem.Stmt → Pos → Bool} (h : stIf u κ = true) (g : ∀ t b o p, u = .If t b o p → κ t b o p = true → P) : P :=
  dite_el h fun hc h => _root_.PySem.Stmt.If.elim (motive_2 := fun u => ∀ hc : u.ctorIdx = 12, _root_.PySem.Stmt.If.elim u hc κ = true → (∀ t b o p, u = .If t b o p → κ t b o p = true → P) → P) u hc (fun t b o p _ h g => g t b o p rfl h) hc h g
noncomputable def stExpr (u : _root_.PySem.Stmt) (κ : _root_.PySem.Expr → Pos → Bool) : Bool := dite (u.ctorIdx = 24) (fun h => _root_.PySem.Stmt.Expr.elim u h κ) fun _ => false
theorem stExpr_el {P : Prop} {u : _root_.PySem.Stmt} {κ : _root_.PySem.Expr → Pos → Bool} (h : stExpr u κ = true) (g : ∀ e p, u = .Expr e p → κ e p = true → P) : P :=
  dite_el h fun hc h => _root_.PySem.Stmt.Expr.elim (motive_2 := fun u => ∀ hc : u.ctorIdx = 24, _root_.PySem.Stmt.Expr.elim u hc κ = true → (∀ e p, u = .Expr e p → κ e p = true → P) → P) u hc (fun e p _ h g => g e p rfl h) hc h g
noncomputable def cobool (u : _root_.PySem.Const) (κ : Bool → Bool) : Bool := dite (u.ctorIdx = 1) (fun h => _root_.PySem.Const.bool.elim u h κ) fun _ => false
theorem cobool_el {P : Prop} {u : _root_.PySem.Const} {κ : Bool → Bool} (h : cobool u κ = true) (g : ∀ b, u = .bool b → κ b = true → P) : P :=
  dite_el h fun hc h => _root_.PySem.Const.bool.elim (motive := fun u => ∀ hc : u.ctorIdx = 1, _root_.PySem.Const.bool.elim u hc κ = true → (∀ b, u = .bool b → κ b = true → P) → P) u hc (fun b _ h g => g b rfl h) hc h g
noncomputable def coint (u : _root_.PySem.Const) (κ : Int → Bool) : Bool := dite (u.ctorIdx = 2) (fun h => _root_.PySem.Const.int.elim u h κ) fun _ => false
theorem coint_el {P : Prop} {u : _root_.PySem.Const} {κ : Int → Bool} (h : coint u κ = true) (g : ∀ i, u = .int i → κ i = true → P) : P :=
  dite_el h fun hc h => _root_.PySem.Const.int.elim (motive := fun u => ∀ hc : u.ctorIdx = 2, _root_.PySem.Const.int.elim u hc κ = true → (∀ i, u = .int i → κ i = true → P) → P) u hc (fun i _ h g => g i rfl h) hc h g
noncomputable def vlstr (u : _root_.PySem.Value) (κ : Str → Tok → Bool) : Bool := dite (u.ctorIdx = 6) (fun h => _root_.PySem.Value.str.elim u h κ) fun _ => false
theorem vlstr_el {P : Prop} {u : _root_.PySem.Value} {κ : Str → Tok → Bool} (h : vlstr u κ = true) (g : ∀ x t, u = .str x t → κ x t = true → P) : P :=
  dite_el h fun hc h => _root_.PySem.Value.str.elim (motive := fun u => ∀ hc : u.ctorIdx = 6, _root_.PySem.Value.str.elim u hc κ = true → (∀ x t, u = .str x t → κ x t = true → P) → P) u hc (fun x t _ h g => g x t rfl h) hc h g
noncomputable def vlint (u : _root_.PySem.Value) (κ : Int → Tok → Bool) : Bool := dite (u.ctorIdx = 4) (fun h => _root_.PySem.Value.int.elim u h κ) fun _ => false
theorem vlint_el {P : Prop} {u : _root_.PySem.Value} {κ : Int → Tok → Bool} (h : vlint u κ = true) (g : ∀ i t, u = .int i t → κ i t = true → P) : P :=
  dite_el h fun hc h => _root_.PySem.Value.int.elim (motive := fun u => ∀ hc : u.ctorIdx = 4, _root_.PySem.Value.int.elim u hc κ = true → (∀ i t, u = .int i t → κ i t = true → P) → P) u hc (fun i t _ h g => g i t rfl h) hc h g
noncomputable def vlbool (u : _root_.PySem.Value) (κ : Bool → Bool) : Bool := dite (u.ctorIdx = 3) (fun h => _root_.PySem.Value.bool.elim u h κ) fun _ => false
theorem vlbool_el {P : Prop} {u : _root_.PySem.Value} {κ : Bool → Bool} (h : vlbool u κ = true) (g : ∀ b, u = .bool b → κ b = true → P) : P :=
  dite_el h fun hc h => _root_.PySem.Value.bool.elim (motive := fun u => ∀ hc : u.ctorIdx = 3, _root_.PySem.Value.bool.elim u hc κ = true → (∀ b, u = .bool b → κ b = true → P) → P) u hc (fun b _ h g => g b rfl h) hc h g
noncomputable def vlref (u : _root_.PySem.Value) (κ : Addr → Bool) : Bool := dite (u.ctorIdx = 10) (fun h => _root_.PySem.Value.ref.elim u h κ) fun _ => false
theorem vlref_el {P : Prop} {u : _root_.PySem.Value} {κ : Addr → Bool} (h : vlref u κ = true) (g : ∀ a, u = .ref a → κ a = true → P) : P :=
  dite_el h fun hc h => _root_.PySem.Value.ref.elim (motive := fun u => ∀ hc : u.ctorIdx = 10, _root_.PySem.Value.ref.elim u hc κ = true → (∀ a, u = .ref a → κ a = true → P) → P) u hc (fun a _ h g => g a rfl h) hc h g
noncomputable def dtfields (u : _root_.PySem.Data) (κ : Array Value → Bool) : Bool := dite (u.ctorIdx = 9) (fun h => _root_.PySem.Data.fields.elim u h κ) fun _ => false
theorem dtfields_el {P : Prop} {u : _root_.PySem.Data} {κ : Array Value → Bool} (h : dtfields u κ = true) (g : ∀ vs, u = .fields vs → κ vs = true → P) : P :=
  dite_el h fun hc h => _root_.PySem.Data.fields.elim (motive := fun u => ∀ hc : u.ctorIdx = 9, _root_.PySem.Data.fields.elim u hc κ = true → (∀ vs, u = .fields vs → κ vs = true → P) → P) u hc (fun vs _ h g => g vs rfl h) hc h g
noncomputable def dtfunc (u : _root_.PySem.Data) (κ : FuncData → Bool) : Bool := dite (u.ctorIdx = 7) (fun h => _root_.PySem.Data.func.elim u h κ) fun _ => false
theorem dtfunc_el {P : Prop} {u : _root_.PySem.Data} {κ : FuncData → Bool} (h : dtfunc u κ = true) (g : ∀ fd, u = .func fd → κ fd = true → P) : P :=
  dite_el h fun hc h => _root_.PySem.Data.func.elim (motive := fun u => ∀ hc : u.ctorIdx = 7, _root_.PySem.Data.func.elim u hc κ = true → (∀ fd, u = .func fd → κ fd = true → P) → P) u hc (fun fd _ h g => g fd rfl h) hc h g
noncomputable def dtcls (u : _root_.PySem.Data) (κ : ClassData → Bool) : Bool := dite (u.ctorIdx = 8) (fun h => _root_.PySem.Data.cls.elim u h κ) fun _ => false
theorem dtcls_el {P : Prop} {u : _root_.PySem.Data} {κ : ClassData → Bool} (h : dtcls u κ = true) (g : ∀ cd, u = .cls cd → κ cd = true → P) : P :=
  dite_el h fun hc h => _root_.PySem.Data.cls.elim (motive := fun u => ∀ hc : u.ctorIdx = 8, _root_.PySem.Data.cls.elim u hc κ = true → (∀ cd, u = .cls cd → κ cd = true → P) → P) u hc (fun cd _ h g => g cd rfl h) hc h g
noncomputable def dtcell (u : _root_.PySem.Data) (κ : Option Value → Bool) : Bool := dite (u.ctorIdx = 6) (fun h => _root_.PySem.Data.cell.elim u h κ) fun _ => false
theorem dtcell_el {P : Prop} {u : _root_.PySem.Data} {κ : Option Value → Bool} (h : dtcell u κ = true) (g : ∀ v, u = .cell v → κ v = true → P) : P :=
  dite_el h fun hc h => _root_.PySem.Data.cell.elim (motive := fun u => ∀ hc : u.ctorIdx = 6, _root_.PySem.Data.cell.elim u hc κ = true → (∀ v, u = .cell v → κ v = true → P) → P) u hc (fun v _ h g => g v rfl h) hc h g
noncomputable def is1 {α : Type} (l : List α) (k : α → Bool) : Bool := match l with
  | [a] => k a
  | _ => false
theorem is1_el {α : Type} {P : Prop} {l : List α} {k : α → Bool} (h : is1 l k = true) (g : ∀ a, l = [a] → k a = true → P) : P := by
  cases l with
  | nil => exact nomatch h
  | cons a r => cases r with
    | nil => exact g a rfl h
    | cons _ _ => exact nomatch h
noncomputable def isC {α : Type} (l : List α) (k : α → List α → Bool) : Bool := match l with
  | a :: r => k a r
  | [] => false
theorem isC_el {α : Type} {P : Prop} {l : List α} {k : α → List α → Bool} (h : isC l k = true) (g : ∀ a r, l = a :: r → k a r = true → P) : P := by
  cases l with
  | nil => exact nomatch h
  | cons a r => exact g a r rfl h
noncomputable def isS {α : Type} (l : Option α) (k : α → Bool) : Bool := match l with
  | some a => k a
  | none => false
theorem isS_el {α : Type} {P : Prop} {l : Option α} {k : α → Bool} (h : isS l k = true) (g : ∀ a, l = some a → k a = true → P) : P := by
  cases l with
  | none => exact nomatch h
  | some a => exact g a rfl h
noncomputable def nmB (x : Str) (e : _root_.PySem.Expr) : Bool := isName e fun y _ => se y x
theorem nmB_el {x : Str} {e : _root_.PySem.Expr} {P : Prop} (h : nmB x e = true) (g : ∀ p, e = .Name x p → P) : P := isName_el h fun _ p q h => g p (se_iff.mp h ▸ q)
noncomputable def attB (x n : Str) (e : _root_.PySem.Expr) : Bool := isAttribute e fun v m _ => nmB x v && se m n
theorem attB_el {x n : Str} {e : _root_.PySem.Expr} {P : Prop} (h : attB x n e = true) (g : ∀ p q, e = .Attribute (.Name x p) n q → P) : P :=
  isAttribute_el h fun _ _ q e h => nmB_el (and_t h).1 fun p e' => g p q (by rw [e, e', se_iff.mp (and_t h).2])
/-- a call with no words -/
noncomputable def isCl (e : _root_.PySem.Expr) (k : _root_.PySem.Expr → List _root_.PySem.Expr → Pos → Bool) : Bool := isCall e fun f as ks p => none? ks && k f as p
theorem isCl_el {e : _root_.PySem.Expr} {k : _root_.PySem.Expr → List _root_.PySem.Expr → Pos → Bool} {P : Prop} (h : isCl e k = true) (g : ∀ f as p, e = .Call f as [] p → k f as p = true → P) : P :=
  isCall_el h fun f as _ p e h => g f as p (none?_out (and_t h).1 ▸ e) (and_t h).2
noncomputable def call1B (x y : Str) (e : _root_.PySem.Expr) : Bool := isCl e fun f as _ => nmB x f && is1 as (nmB y)
theorem call1B_el {x y : Str} {e : _root_.PySem.Expr} {P : Prop} (h : call1B x y e = true) (g : ∀ p q r, e = .Call (.Name x p) [.Name y q] [] r → P) : P :=
  isCl_el h fun _ _ r e h => nmB_el (and_t h).1 fun p e1 => is1_el (and_t h).2 fun _ e2 h => nmB_el h fun q e3 => g p q r (by rw [e, e1, e2, e3])
end Mine
namespace Mine
open PySem PySem.W PyProof.Rows PySem.Calls

/-! no run makes the heap smaller -/
theorem runs_size {M : Model} {Γ : PySem.Ctx} {p : Pos} {t : Sem Fin} {fs : List Frame} {s s' : Shared} {e : End} (h : Runs M Γ p t fs s e s') : s.heap.objs.size ≤ s'.heap.objs.size := by
  induction h <;> (try simp only [Shared.setGen, Heap.size_after_update, Heap.size_push] at *) <;> omega
theorem returns_size {M : Model} {Γ : PySem.Ctx} {p : Pos} {s s' : Shared} {r : Result} (h : Returns M Γ p s r s') : s.heap.objs.size ≤ s'.heap.objs.size := runs_size h
theorem wakes_size {M : Model} {Γ : PySem.Ctx} {p : Pos} {g : Nat} {r : Resume} {s s' : Shared} {res : GenResult} (h : Wakes M Γ p g r s res s') : s.heap.objs.size ≤ s'.heap.objs.size := by
  unfold Wakes at h
  split at h
  · exact h.elim
  · split at h
    · obtain ⟨e₁, s₁, hr, _, _, rfl⟩ := h
      exact (runs_size hr : (s.setGen g .running).heap.objs.size ≤ s₁.heap.objs.size)
    · rw [h.2]; exact Nat.le_refl _
    · rw [h.2]; exact Nat.le_refl _
  · obtain ⟨e₁, s₁, hr, _, _, rfl⟩ := h
    exact (runs_size hr : (s.setGen g .running).heap.objs.size ≤ s₁.heap.objs.size)
  · rw [h.2]; exact Nat.le_refl _
  · rw [h.2]; exact Nat.le_refl _
theorem wp_size {α : Type} (M : Model) (Γ : PySem.Ctx) (n : Nat) (t : Sem α) : ∀ (Q : α → Pos → Shared → Prop) (E : Value → Pos → Shared → Prop) (p : Pos) (s : Shared), n ≤ s.heap.objs.size → Sem.wp M Γ t Q E p s →
    Sem.wp M Γ t (fun a p' s' => n ≤ s'.heap.objs.size ∧ Q a p' s') (fun e p' s' => n ≤ s'.heap.objs.size ∧ E e p' s') p s := by
  induction t with
  | pure a => intro Q E p s hn h; exact ⟨hn, h⟩
  | raise e => intro Q E p s hn h; exact ⟨hn, h⟩
  | rule _ k ih => intro Q E p s hn h; exact ih () Q E p s hn h
  | «at» p' k ih => intro Q E p s hn h; exact ih () Q E p' s hn h
  | load a _ k ih => intro Q E p s hn h; obtain ⟨o, ho, h⟩ := h; exact ⟨o, ho, ih o Q E p s hn h⟩
  | update a _ f k ih => intro Q E p s hn h; exact ⟨h.1, ih () Q E p _ (by show n ≤ (s.heap.update a f).objs.size; rw [Heap.size_after_update]; exact hn) h.2⟩
  | loadIfAlive a k ih => intro Q E p s hn h; exact ih _ Q E p s hn h
  | point _ k ih => intro Q E p s hn h; exact ih () Q E p s hn h
  | alloc o k ih => intro Q E p s hn h; exact ih _ Q E p _ (by show n ≤ (s.heap.push o).objs.size; rw [Heap.size_push]; omega) h
  | fresh k ih => intro Q E p s hn h; exact ih _ Q E p _ hn h
  | ask k ih => intro Q E p s hn h; exact ih _ Q E p s hn h
  | choose src m k ih => intro Q E p s hn h; exact ⟨h.1, ih _ Q E p _ hn h.2⟩
  | os q _ k ih => intro Q E p s hn h; exact ih _ Q E p _ hn h
  | call c hd _ _ k ih => intro Q E p s hn h; obtain ⟨r, s', hr, h⟩ := h; exact ⟨r, s', hr, ih r Q E p s' (Nat.le_trans hn (returns_size hr)) h⟩
  | handled own k ih => intro Q E p s hn h; exact ih _ Q E p s hn h
  | genState g k ih => intro Q E p s hn h; obtain ⟨st, hs, h⟩ := h; exact ⟨st, hs, ih _ Q E p s hn h⟩
  | newGen c k ih => intro Q E p s hn h; exact ih _ Q E p _ hn h
  | resume g r _ k ih => intro Q E p s hn h; obtain ⟨res, s', hw, h⟩ := h; exact ⟨res, s', hw, ih res Q E p s' (Nat.le_trans hn (wakes_size hw)) h⟩
  | stack k ih => intro Q E p s hn h; exact ih _ Q E p s hn h
  | thread k ih => intro Q E p s hn h; exact ih _ Q E p s hn h
  | _ => intros; first | assumption | (rename_i h; exact h)

theorem Tri.size {cx : Cx} {A : Around} {s : Shared} {α : Type} {t : Sem α} {P : α → Shared → Prop} (h : Tri cx A t s fun a s' => s.heap.objs.size ≤ s'.heap.objs.size → P a s') : Tri cx A t s P :=
  fun Γ p hΓ => Sem.wp_mono _ Γ t (fun _ _ _ q => q.2 q.1) (fun _ _ _ q => q.2) p s (wp_size _ Γ _ t _ _ p s (Nat.le_refl _) (h Γ p hΓ))
end Mine
namespace Mine
open PySem PySem.W PyProof.Rows PySem.Calls

theorem oldk_but {h₀ h h' : Heap} (K : OldK h₀ h) {X : Addr → Prop} (ha : ∀ a, X a → h₀.objs.size ≤ a) (hk : ∀ b o, ¬ X b → h.get? b = some o → h'.get? b = some o) : OldK h₀ h' := by
  have ne : ∀ b o, h₀.get? b = some o → ¬ X b := fun b o e hx => Nat.lt_irrefl _ (Nat.lt_of_lt_of_le (Heap.lt_size e) (ha b hx))
  refine ⟨fun b o e => ?_, fun b o e => let ⟨o', ho'⟩ := K.there b o e; ⟨o', hk b o' (ne b o e) ho'⟩⟩
  rcases K.old b o e with x | ⟨t, hc, vs, more, hv, x⟩ | ⟨rfl, hc, ⟨o', es, n, ho', r⟩, z⟩
  · exact .inl (hk b _ (ne b o e) x)
  · exact .inr (.inl ⟨t, hc, vs, more, hv, hk b _ (ne b o e) x⟩)
  · exact .inr (.inr ⟨rfl, hc, ⟨o', es, n, hk _ _ (ne _ o e) ho', r⟩, fun key => by rw [OldK.staticOf_congr ((hk _ _ (ne _ o e) ho').trans ho'.symm) key]; exact z key⟩)

section
variable {cx : Cx} {θ : Th} {X ρ ρ' : List Addr} {H H' : AH} {s s' s'' : Shared} {A : Around} {v : AV} {x : Value}
theorem oldt_but {h h' : Heap} (K : OldT cx h) {X : Addr → Prop} (ha : ∀ a, X a → cx.h₁.objs.size ≤ a) (hk : ∀ b o, ¬ X b → h.get? b = some o → h'.get? b = some o) : OldT cx h' :=
  ⟨oldk_but K.k ha hk, fun P m => let ⟨l, ps, e, t⟩ := K.t P m; ⟨l, ps, hk _ _ (fun hx => Nat.lt_irrefl _ (Nat.lt_of_lt_of_le l (ha P hx))) e, t⟩⟩
/-- things aside changed -/
theorem St.but (S : St cx θ ρ H s) {Y : Addr → Prop} (hY : ∀ a, Y a → a ∉ ρ ∧ cx.h₁.objs.size ≤ a) (h : ∀ b o, ¬ Y b → s.heap.get? b = some o → s'.heap.get? b = some o) (hg : AllBare s'.gens) (hz : s.heap.objs.size ≤ s'.heap.objs.size) : St cx θ ρ H s' where
  len := S.len
  nodup := S.nodup
  lt := fun a m => Nat.lt_of_lt_of_le (S.lt a m) hz
  old := S.old
  small := S.small
  obj := fun i ao e => by
    obtain ⟨a, o, ha, ho, q⟩ := S.obj i ao e
    exact ⟨a, o, ha, h a o (fun hy => (hY a hy).1 (List.mem_of_getElem? ha)) ho, q⟩
  base := fun b o e => h b o (fun hy => by have := Heap.lt_size e; rw [cx.h₀_size] at this; exact Nat.lt_irrefl _ (Nat.lt_of_lt_of_le this (hY b hy).2)) (S.base b o e)
  size := Nat.le_trans S.size hz
  oldk := oldt_but S.oldk (fun a hy => (hY a hy).2) h
  bare := hg
theorem Aft.but1 {P : List Addr → Prop} (S : St cx θ ρ H s) {I : Addr} (hI : I ∉ ρ) (ho : cx.h₁.objs.size ≤ I) (h : ∀ b o, b ≠ I → s.heap.get? b = some o → s'.heap.get? b = some o) (hg : AllBare s'.gens) (hos : s'.os = s.os) (hz : s.heap.objs.size ≤ s'.heap.objs.size) (p : P ρ) : Aft cx θ [I] ρ s H P s' :=
  ⟨ρ, ⟨⟨[], (List.append_nil _).symm, fun _ m => nomatch m⟩, fun b o e n _ => h b o (fun z => n (z ▸ .head _)) e, hos, hz⟩, S.but (Y := (· = I)) (fun a e => by subst e; exact ⟨hI, ho⟩) (fun b o n e => h b o n e) hg hz, p⟩
theorem Aft.keep {P : List Addr → Prop} (S : St cx θ ρ H s) (h : ∀ b o, s.heap.get? b = some o → s'.heap.get? b = some o) (hg : AllBare s'.gens) (hos : s'.os = s.os) (hz : s.heap.objs.size ≤ s'.heap.objs.size) (p : P ρ) : Aft cx θ X ρ s H P s' :=
  ⟨ρ, .of_all h hos hz, S.frame h hg hz, p⟩

theorem new_iter (S : St cx θ ρ H s) {o : Obj} {it : IT} (r : ItRel θ ρ (s.heap.push o) s.heap.objs.size it) : IterPost cx θ ρ s H it (.ref s.heap.objs.size) { s with heap := s.heap.push o } := by
  have hz : s.heap.objs.size ≤ (s.heap.push o).objs.size := by rw [Heap.size_push]; exact Nat.le_succ _
  refine ⟨_, rfl, Nat.le_refl _, Aft.keep S (fun b o e => Heap.get?_push_of_some _ e) S.bare rfl hz ⟨fun m => Nat.lt_irrefl _ (S.lt _ m), S.size, ?_, r⟩⟩
  show s.heap.objs.size < (s.heap.push o).objs.size
  rw [Heap.size_push]; exact Nat.lt_succ_self _

theorem leaf_iter {it : IT} (S : St cx θ ρ H s) (hv : VRel θ ρ v x) (e : itersOf H v = some it) : Tri cx A (pyIter x) s (IterPost cx θ ρ s H it) := by
  unfold itersOf at e
  split at e
  · rename_i l
    cases e
    obtain ⟨t, rfl⟩ := hv
    have e0 : (l.map fun c => AV.str [c]) = (l.drop 0).map fun c => AV.str [c] := rfl
    cases ha : (θ.tx l).cps.all (· < 128) with
    | true => exact wpAny_pyIter_ascii ha (new_iter S (.inr (.inr ⟨_, l, t, 0, .inl rfl, ⟨_, Heap.get?_push_size _ rfl, rfl, rfl⟩, e0⟩)))
    | false => exact wpAny_pyIter_wide ha (new_iter S (.inr (.inr ⟨_, l, t, 0, .inr rfl, ⟨_, Heap.get?_push_size _ rfl, rfl, rfl⟩, e0⟩)))
  · rename_i k
    split at e
    · rename_i xs hg
      cases e
      obtain ⟨a, ha, rfl⟩ := hv
      obtain ⟨o, ho, vs, n, rfl, hr⟩ := S.getO ha hg
      exact wpAny_pyIter_list ⟨_, ho, rfl, n, rfl⟩ (new_iter S ⟨a, ha, _, Heap.get?_push_size _ rfl, rfl, rfl⟩)
    · cases e
  · cases e

theorem leaf_iterI {I : Addr} {it : IT} (i : ItOk cx θ ρ s I it) : Tri cx A (pyIter (.ref I)) s fun x s' => x = .ref I ∧ s' = s := by
  have r := i.rel
  cases it with
  | items xs =>
    rcases r with ⟨a, m, h, e⟩ | ⟨a, m, h, e⟩ | ⟨ty, l, t, j, hty, h, e⟩
    · exact wpAny_pyIter_rangeiter h ⟨rfl, rfl⟩
    · exact wpAny_pyIter_rangeiter h ⟨rfl, rfl⟩
    · rcases hty with rfl | rfl
      · exact wpAny_pyIter_striter_ascii h ⟨rfl, rfl⟩
      · exact wpAny_pyIter_striter_wide h ⟨rfl, rfl⟩
  | lst k j =>
    obtain ⟨a, ha, h⟩ := r
    exact wpAny_pyIter_listiter h ⟨rfl, rfl⟩

theorem okR_out {a : Int} (h : okR a = true) : -5000 < a ∧ a < 5000 := by
  simp only [okR, Bool.and_eq_true] at h
  exact ⟨ilt_iff.mp h.1, ilt_iff.mp h.2⟩

theorem leaf_next (hA : AOk A 8) (S : St cx θ ρ H s) {I : Addr} {it : IT} {r : Option (AV × IT)} (i : ItOk cx θ ρ s I it) (e : nextIT H it = some r) :
    Tri cx A (pyNext (.ref I)) s fun x s' => Aft cx θ [I] ρ s H (fun ρ' => NextRel cx θ ρ' s' I r x) s' := by
  have fin : ∀ {h' : Heap}, Heap.ExtBut I s.heap h' → s.heap.objs.size ≤ h'.objs.size → Aft cx θ [I] ρ s H (fun ρ' => NextRel cx θ ρ' { s with heap := h' } I none none) { s with heap := h' } :=
    fun hx hz => Aft.but1 S i.nin i.old (fun b o n e => hx b o n e) S.bare rfl hz rfl
  have go : ∀ {h' : Heap} {tk : Nat} {y : Value} {p : AV × IT}, Heap.SameBut I s.heap h' → VRel θ ρ p.1 y → ItRel θ ρ h' I p.2 → Aft cx θ [I] ρ s H (fun ρ' => NextRel cx θ ρ' { s with heap := h', toks := tk } I (some p) (some y)) { s with heap := h', toks := tk } :=
    fun hs hv hr => Aft.but1 S i.nin i.old (fun b o n e => (hs.2 b n).trans e) S.bare rfl (by rw [hs.1]; exact Nat.le_refl _) ⟨_, rfl, hv, i.nin, i.old, by show I < Array.size _; rw [hs.1]; exact i.lt, hr⟩
  have rel := i.rel
  unfold nextIT at e
  split at e
  · -- no more items
    cases e
    refine Tri.size ?_
    rcases rel with ⟨a, m, h, e⟩ | ⟨a, m, h, e⟩ | ⟨ty, l, t, j, hty, h, e⟩
    · cases m with
      | zero => exact wpAny_pyNext_range_end hA.hd h (by simp) fun h' hx hz => fin hx hz
      | succ m => cases e
    · cases m with
      | zero => exact wpAny_pyNext_range_end hA.hd h (by simp) fun h' hx hz => fin hx hz
      | succ m => cases e
    · have hj : (θ.tx l).cps[j]? = none := by
        have h0 : l.length ≤ j := by
          have := (List.map_eq_nil_iff.mp e.symm)
          exact List.drop_eq_nil_iff.mp this
        exact Array.getElem?_eq_none (by show Array.size _ ≤ j; have := tx_len (θ := θ) l; unfold Str.length at this; omega)
      rcases hty with rfl | rfl
      · exact wpAny_pyNext_ascii_end hA.hd h hj fun h' hx hz => fin hx hz
      · exact wpAny_pyNext_wide_end hA.hd h hj fun h' hx hz => fin hx hz
  · -- an item
    rename_i u us
    cases e
    rcases rel with ⟨a, m, h, e⟩ | ⟨a, m, h, e⟩ | ⟨ty, l, t, j, hty, h, e⟩
    · cases m with
      | zero => cases e
      | succ m =>
        cases e
        have e1 : ((m + 1 : Nat) : Int) - 1 = m := by omega
        exact wpAny_pyNext_range_item h (by omega) fun h' hit hs => go hs ⟨_, _, rfl, rfl⟩ (.inl ⟨a + 1, m, e1 ▸ hit, rfl⟩)
    · cases m with
      | zero => cases e
      | succ m =>
        cases e
        have e1 : ((m + 1 : Nat) : Int) - 1 = m := by omega
        exact wpAny_pyNext_range_item h (by omega) fun h' hit hs => go hs ⟨_, _, rfl, rfl⟩ (.inr (.inl ⟨a - 1, m, e1 ▸ hit, rfl⟩))
    · obtain ⟨c, cs, hd, h1, h2⟩ : ∃ c cs, l.drop j = c :: cs ∧ u = .str [c] ∧ us = cs.map fun c => .str [c] := by
        cases hd : l.drop j with
        | nil => rw [hd] at e; cases e
        | cons c cs => rw [hd] at e; cases e; exact ⟨c, cs, rfl, rfl, rfl⟩
      subst h1 h2
      have hl : l[j]? = some c := by
        have := congrArg (·[0]?) hd
        simpa using this
      have hcs : l.drop (j + 1) = cs := by
        have := congrArg (List.drop 1) hd
        simpa [List.drop_drop, Nat.add_comm] using this
      have hj : (θ.tx l).cps[j]? = some (θ.ch c) := by
        show (l.map θ.ch).toArray[j]? = _
        simp [hl]
      have hv : VRel θ ρ (.str [c]) (.str ⟨#[θ.ch c]⟩ s.toks) := ⟨_, rfl⟩
      rcases hty with rfl | rfl
      · exact wpAny_pyNext_ascii_item h hj fun h' hit hs => go hs hv (.inr (.inr ⟨_, l, t, j + 1, .inl rfl, hit, by rw [hcs]⟩))
      · exact wpAny_pyNext_wide_item h hj fun h' hit hs => go hs hv (.inr (.inr ⟨_, l, t, j + 1, .inr rfl, hit, by rw [hcs]⟩))
  · -- a list
    rename_i k j
    split at e
    · rename_i xs hg
      obtain ⟨a, ha, hit⟩ := rel
      obtain ⟨o, ho, vs, m, rfl, hr⟩ := S.getO ha hg
      have hl : s.heap.IsList a vs := ⟨_, ho, rfl, m, rfl⟩
      split at e
      · rename_i u hu
        cases e
        obtain ⟨y, hy, hv⟩ := hr.nth hu
        exact wpAny_pyNext_list_item hit hl (by rw [← Array.getElem?_toList]; exact hy) fun h' hit' hs => go (tk := s.toks) hs hv ⟨a, ha, hit'⟩
      · rename_i hu
        cases e
        refine Tri.size (wpAny_pyNext_list_end hA.hd hit hl ?_ fun h' hx hz => fin hx hz)
        have key : ∀ {l : List AV} {j : Nat}, nth l j = none → l.length ≤ j := by
          intro l
          induction l with
          | nil => intro j _; exact Nat.zero_le _
          | cons b r ih =>
            intro j h
            cases j with
            | zero => cases h
            | succ j => exact Nat.succ_le_succ (ih h)
        have := key hu
        rw [hr.length] at this
        exact Array.getElem?_eq_none (by simpa using this)
    · cases e

theorem leaf_unp (hA : AOk A 8) (S : St cx θ ρ H s) {vs : List AV} (hv : VRel θ ρ v x) (e : unpackA H v = some vs) : Tri cx A (unpackItems x vs.length none) s fun ys s' => Aft cx θ [] ρ s H (fun ρ' => All2 (VRel θ ρ') vs ys) s' := by
  have fin : ∀ {h' : Heap} {ys : List Value}, Heap.ExtBut s.heap.objs.size s.heap h' → All2 (VRel θ ρ) vs ys → s.heap.objs.size ≤ h'.objs.size → Aft cx θ [] ρ s H (fun ρ' => All2 (VRel θ ρ') vs ys) { s with heap := h' } :=
    fun hx hv hz => Aft.keep S (fun b o e => hx b o (Nat.ne_of_lt (Heap.lt_size e)) e) S.bare rfl hz hv
  unfold unpackA at e
  split at e
  · rename_i k
    split at e
    · rename_i xs hg
      cases e
      obtain ⟨a, ha, rfl⟩ := hv
      obtain ⟨o, ho, ys, m, rfl, hr⟩ := S.getO ha hg
      have hl : s.heap.IsList a ys := ⟨_, ho, rfl, m, rfl⟩
      rw [hr.length, Array.length_toList]
      exact Tri.size (kun_itemsOf hA.hd hl fun h' hx hz => fin hx hr hz)
    · rename_i xs hg
      cases e
      obtain ⟨a, ha, rfl⟩ := hv
      obtain ⟨o, ho, ys, m, rfl, hr⟩ := S.getO ha hg
      have hl : s.heap.IsTuple a ys := ⟨_, ho, rfl, m, rfl⟩
      rw [hr.length, Array.length_toList]
      exact Tri.size (wpAny_unpackItems_tuple hA.hd hl fun h' hx hz => fin hx hr hz)
    · cases e
  · cases e
end
end Mine
namespace Mine
open PySem PySem.W PyProof.Rows PySem.Calls
section
variable {cx : Cx} {θ : Th} {X ρ ρ' : List Addr} {H H' : AH} {s s' s'' : Shared} {A : Around} {v : AV} {x : Value}

theorem litOf_out {u : AV} {x : Value} {i : Int} (h : VRel θ ρ u x) (e : litOf u = some i) : ∃ t, x = .int i t := by
  cases u with
  | int s =>
    cases s with
    | lit i =>
      obtain ⟨j, t, rfl, hj⟩ := h
      obtain rfl := Option.some.inj e
      exact ⟨t, congrArg (fun j => Value.int j t) hj⟩
    | _ => exact no_el e
  | _ => exact no_el e

theorem range_fin (S : St cx θ ρ H s) {a b c : Int} {t u w : Tok} {tk : Nat} {l : List AV} (hsm : Builtin.Range.small a b c = true)
    (hr : ∀ h : Heap, ∀ I, IsRangeIter h I a (Builtin.Range.rangeSize a b c) c → ItItems θ h I l) :
    Aft cx θ [] ρ s H (fun ρ₁ => ∀ {A'}, AOk A' 8 → Tri cx A' (pyIter (.ref s.heap.objs.size)) { s with heap := s.heap.push { cls := .type "range", data := .fields #[.int a t, .int b u, .int c w] }, toks := tk }
      (IterPost cx θ ρ₁ { s with heap := s.heap.push { cls := .type "range", data := .fields #[.int a t, .int b u, .int c w] }, toks := tk } H (.items l)))
      { s with heap := s.heap.push { cls := .type "range", data := .fields #[.int a t, .int b u, .int c w] }, toks := tk } := by
  have hz : s.heap.objs.size ≤ (s.heap.push { cls := .type "range", data := .fields #[.int a t, .int b u, .int c w] }).objs.size := by rw [Heap.size_push]; exact Nat.le_succ _
  have S₁ : St cx θ ρ H { s with heap := s.heap.push { cls := .type "range", data := .fields #[.int a t, .int b u, .int c w] }, toks := tk } := S.frame (fun b o e => Heap.get?_push_of_some _ e) S.bare hz
  exact Aft.keep S (fun b o e => Heap.get?_push_of_some _ e) S.bare rfl hz fun {A'} _ => wpAny_pyIter_range (Heap.get?_push_size _ rfl) hsm (new_iter S₁ (hr _ _ (Heap.get?_push_size _ rfl)))

theorem okR_big {a : Int} (h : okR a = true) : -(2 ^ 62) ≤ a ∧ a < 2 ^ 62 := ⟨Int.le_trans (by decide) (Int.le_of_lt (okR_out h).1), Int.lt_trans (okR_out h).2 (by decide)⟩
theorem toNat_if (a b : Int) : ((b - a).toNat : Int) = if a < b then b - a else 0 := by split <;> omega
theorem small_up {a b : Int} (ha : okR a = true) (hb : okR b = true) : Builtin.Range.small a b 1 = true := small_one (okR_big ha).1 (okR_big ha).2 (okR_big hb).1 (okR_big hb).2
theorem size_dn (a b : Int) : Builtin.Range.rangeSize a b (-1) = ((a - b).toNat : Int) := by
  unfold Builtin.Range.rangeSize
  rw [toNat_if, if_neg (by decide), Int.neg_neg]
  simp only [Int.ediv_one]
  split <;> omega
theorem small_dn {a b : Int} (ha : okR a = true) (hb : okR b = true) : Builtin.Range.small a b (-1) = true := by
  unfold Builtin.Range.small
  have h1 := okR_out ha
  have h2 := okR_out hb
  rw [size_dn]
  simp only [Builtin.Range.rangeFitsLong, Bool.and_eq_true, Bool.or_eq_true, decide_eq_true_eq, beq_iff_eq, show ¬ ((-1 : Int) > 0) by decide, if_false]
  omega

theorem leaf_range {vs : List AV} {ys : List Value} {l : List AV} (S : St cx θ ρ H s) (hv : All2 (VRel θ ρ) vs ys) (e : rangeItems vs = some l) :
    Tri cx A (call (.type "range") ys []) s fun x s₁ => Aft cx θ [] ρ s H (fun ρ₁ => ∀ {A'}, AOk A' 8 → Tri cx A' (pyIter x) s₁ (IterPost cx θ ρ₁ s₁ H (.items l))) s₁ := by
  cases hv with
  | nil => exact no_el e
  | cons ha hv =>
  cases hv with
  | nil =>
    refine ob_el e fun b hb e => cnd_el e fun h0 e => ?_
    obtain rfl := Option.some.inj e
    obtain ⟨t, rfl⟩ := litOf_out ha hb
    exact call_range_1 (range_fin S (small_up (by decide) h0) fun h I hI => .inl ⟨0, b.toNat, by
      rw [rangeSize_one, ← toNat_if, Int.sub_zero] at hI; exact hI, rfl⟩)
  | cons hb hv =>
  cases hv with
  | nil =>
    refine ob_el e fun a h3 e => ob_el e fun b h4 e => cnd_el e fun h0 e => ?_
    obtain rfl := Option.some.inj e
    obtain ⟨t, rfl⟩ := litOf_out ha h3
    obtain ⟨u, rfl⟩ := litOf_out hb h4
    exact call_range_2 (range_fin S (small_up (and_t h0).1 (and_t h0).2) fun h I hI => .inl ⟨a, (b - a).toNat, by
      rw [rangeSize_one, ← toNat_if] at hI; exact hI, rfl⟩)
  | cons hc hv =>
  cases hv with
  | nil =>
    refine ob_el e fun a h3 e => ob_el e fun b h4 e => ob_el e fun c h5 e => cnd_el e fun h0 e => ?_
    obtain rfl := Option.some.inj e
    have hz := and_t h0
    have hy := and_t hz.1
    obtain rfl := ieq_iff.mp hz.2
    obtain ⟨t, rfl⟩ := litOf_out ha h3
    obtain ⟨u, rfl⟩ := litOf_out hb h4
    obtain ⟨w, rfl⟩ := litOf_out hc h5
    exact call_range_3 (by decide) (range_fin S (small_dn hy.1 hy.2) fun h I hI => .inr (.inl ⟨a, (a - b).toNat, by
      rw [size_dn] at hI; exact hI, rfl⟩)) (.inl (PyProof.noPylong_small (by decide)))
  | cons _ _ => exact no_el e
end
end Mine
namespace Mine
open PySem PySem.W PyProof.Rows PySem.Calls

/-! polynomials -/
noncomputable def evM (f : Nat → Int) : Mono → Int
  | [] => 1
  | n :: r => f n * evM f r
noncomputable def evP (f : Nat → Int) : List (Int × Mono) → Int
  | [] => 0
  | p :: r => p.1 * evM f p.2 + evP f r
theorem evM_ins (f : Nat → Int) (n : Nat) (l : Mono) : evM f (insN n l) = f n * evM f l := by
  induction l with
  | nil => rfl
  | cons m r ih =>
    rw [insN]
    cases Nat.ble n m with
    | true => rfl
    | false => exact (congrArg (f m * ·) ih).trans (Int.mul_left_comm _ _ _)
theorem evM_mul (f : Nat → Int) (b a : Mono) : evM f (mulM a b) = evM f a * evM f b := by
  induction a with
  | nil => exact (Int.one_mul _).symm
  | cons n a ih => exact (evM_ins f n _).trans ((congrArg (f n * ·) ih).trans (Int.mul_assoc _ _ _).symm)
theorem evP_addT (f : Nat → Int) (c : Int) (m : Mono) (q : List (Int × Mono)) : evP f (addT c m q) = c * evM f m + evP f q := by
  induction q with
  | nil => rfl
  | cons p r ih =>
    obtain ⟨d, n⟩ := p
    rw [addT]
    cases h : nlb m n with
    | true =>
      obtain rfl := nlb_iff.mp h
      exact (congrArg (· + evP f r) (Int.add_mul c d _)).trans (Int.add_assoc _ _ _)
    | false =>
      cases ltM m n with
      | true => rfl
      | false => exact (congrArg (d * evM f n + ·) ih).trans (Int.add_left_comm _ _ _)
theorem evP_add (f : Nat → Int) (q p : List (Int × Mono)) : evP f (addP p q) = evP f p + evP f q := by
  induction p with
  | nil => exact (Int.zero_add _).symm
  | cons t p ih => exact (evP_addT f t.1 t.2 _).trans ((congrArg (t.1 * evM f t.2 + ·) ih).trans (Int.add_assoc _ _ _).symm)
theorem evP_scale (f : Nat → Int) (c : Int) (m : Mono) (q : List (Int × Mono)) : evP f (scaleP c m q) = c * evM f m * evP f q := by
  induction q with
  | nil => exact (Int.mul_zero _).symm
  | cons t r ih =>
    obtain ⟨d, n⟩ := t
    refine (evP_addT f (c * d) (mulM m n) _).trans ?_
    rw [ih, evM_mul, evP, Int.mul_add]
    exact congrArg (· + _) ((Int.mul_assoc c d _).trans ((congrArg (c * ·) (Int.mul_left_comm d _ _)).trans (Int.mul_assoc c _ _).symm))
theorem evP_mul (f : Nat → Int) (q p : List (Int × Mono)) : evP f (mulP p q) = evP f p * evP f q := by
  induction p with
  | nil => exact (Int.zero_mul _).symm
  | cons t p ih => exact (evP_add f _ _).trans ((congr (congrArg HAdd.hAdd (evP_scale f t.1 t.2 q)) ih).trans (Int.add_mul _ _ _).symm)
theorem nf_ok (f : Nat → Int) (p : PE) : evP f p.nf = p.eval f := by
  induction p with
  | v n => exact (Int.add_zero _).trans ((Int.one_mul _).trans (Int.mul_one _))
  | lit i => exact (Int.add_zero _).trans (Int.mul_one _)
  | add a b iha ihb => exact (evP_add f _ _).trans (congr (congrArg HAdd.hAdd iha) ihb)
  | mul a b iha ihb => exact (evP_mul f _ _).trans (congr (congrArg HMul.hMul iha) ihb)
theorem evP_nil {f : Nat → Int} {t : Int × Mono} {p : List (Int × Mono)} (h : ieq t.1 0 = true) : evP f (t :: p) = evP f p := by
  rw [evP, ieq_iff.mp h, Int.zero_mul, Int.zero_add]
theorem eqPf_ok (f : Nat → Int) (k : Nat) : ∀ p q, eqPf k p q = true → evP f p = evP f q := by
  induction k with
  | zero => exact fun _ _ h => nomatch h
  | succ k ih =>
    intro p q h
    cases p with
    | nil => cases q with
      | nil => rfl
      | cons d q => exact (ih [] q (and_t h).2).trans (evP_nil (and_t h).1).symm
    | cons c p =>
      change cond (ieq c.1 0) (eqPf k p q) _ = true at h
      cases hc : ieq c.1 0 with
      | true => rw [hc] at h; exact (evP_nil hc).trans (ih p q h)
      | false =>
        rw [hc] at h
        cases q with
        | nil => exact nomatch h
        | cons d q =>
          have h : cond (ieq d.1 0) (eqPf k (c :: p) q) (ieq c.1 d.1 && nlb c.2 d.2 && eqPf k p q) = true := h
          cases hd : ieq d.1 0 with
          | true => rw [hd] at h; exact (ih _ q h).trans (evP_nil hd).symm
          | false =>
            rw [hd] at h
            obtain ⟨h1, h2⟩ := and_t h
            rw [evP, evP, ieq_iff.mp (and_t h1).1, nlb_iff.mp (and_t h1).2, ih p q h2]
theorem eqP_eval {f : Nat → Int} {p q : PE} (h : eqP p.nf q.nf = true) : p.eval f = q.eval f := (nf_ok f p).symm.trans ((eqPf_ok f _ _ _ h).trans (nf_ok f q))

/-! texts alike -/
theorem sg_facts : ∀ b, b < 11 → (∀ k, k < 3 → ∀ l, l < 3 → signs13.getD (b + k) 0 = signs13.getD (b + l) 0 → k = l) ∧ ∀ k, k < 3 → 33 ≤ signs13.getD (b + k) 0 ∧ signs13.getD (b + k) 0 ≤ 125 := by decide
theorem okc_el {c : Nat} {P : Prop} (h : okc c = true) (k1 : c < fakeAt → (c < 33 ∨ 125 < c) → P) (k2 : ∀ k, k < 3 → c = fakeAt + k → P) : P := by
  have lit : ∀ {d : Nat}, Nat.beq c d = true → d < 33 → P := fun e h => k1 (Nat.lt_trans (beq_t e ▸ h) (by decide)) (.inl (beq_t e ▸ h))
  rcases or_t h with h | h
  · rcases or_t h with h | h
    · rcases or_t h with h | h
      · rcases or_t h with h | h
        · rcases or_t h with h | h
          · exact lit h (by decide)
          · exact lit h (by decide)
        · exact lit h (by decide)
      · exact lit h (by decide)
    · obtain ⟨h1, h2⟩ := and_t h
      exact k1 (Nat.lt_of_le_of_lt (Nat.le_of_ble_eq_true h2) (by decide)) (.inr (Nat.lt_of_lt_of_le (by decide) (Nat.le_of_ble_eq_true h1)))
  · obtain ⟨h1, h2⟩ := and_t h
    obtain ⟨k, rfl⟩ := Nat.exists_eq_add_of_le (Nat.le_of_ble_eq_true h1)
    exact k2 k (Nat.lt_succ_of_le (Nat.le_of_add_le_add_left (Nat.le_of_ble_eq_true h2))) rfl
theorem ch_plain {θ : Th} {c : Nat} (h : c < fakeAt) : θ.ch c = c := if_pos h
theorem ch_fk {θ : Th} {k : Nat} : θ.ch (fakeAt + k) = θ.sg k := (if_neg (Nat.not_lt.mpr (Nat.le_add_right _ _))).trans (congrArg θ.sg (Nat.add_sub_cancel_left ..))
theorem sg_ne {θ : Th} (O : θ.Ok) {c k : Nat} (hk : k < 3) (h : c < 33 ∨ 125 < c) (e : c = θ.sg k) {P : Prop} : P :=
  have ⟨h1, h2⟩ := (sg_facts θ.b O.b).2 k hk
  h.elim (fun h => absurd (Nat.lt_of_lt_of_le h h1) (e ▸ Nat.lt_irrefl c)) fun h => absurd (Nat.lt_of_le_of_lt h2 h) (e ▸ Nat.lt_irrefl c)
theorem ch_inj {θ : Th} (O : θ.Ok) {c d : Nat} (hc : okc c = true) (hd : okc d = true) (e : θ.ch c = θ.ch d) : c = d := by
  refine okc_el hc (fun h1 h2 => okc_el hd (fun h3 _ => ?_) fun k h3 h4 => ?_) fun k h1 h2 => okc_el hd (fun h3 h4 => ?_) fun l h3 h4 => ?_
  · exact (ch_plain h1).symm.trans (e.trans (ch_plain h3))
  · exact sg_ne O h3 h2 ((ch_plain h1).symm.trans (e.trans (h4 ▸ ch_fk)))
  · exact sg_ne O h1 h4 ((ch_plain h3).symm.trans (e.symm.trans (h2 ▸ ch_fk)))
  · subst h2 h4
    exact congrArg (fakeAt + ·) ((sg_facts θ.b O.b).1 k h1 l h3 (ch_fk.symm.trans (e.trans ch_fk)))
theorem tx_inj {θ : Th} (O : θ.Ok) {x y : List Nat} (hx : okx x = true) (hy : okx y = true) : θ.tx x = θ.tx y ↔ x = y := by
  refine ⟨fun e0 => ?_, fun e => by rw [e]⟩
  have e : x.map θ.ch = y.map θ.ch := by
    have := congrArg (fun s : Str => s.cps.toList) e0
    simpa [Th.tx] using this
  clear e0
  induction x generalizing y with
  | nil => cases y with
    | nil => rfl
    | cons _ _ => cases e
  | cons a x ih =>
    cases y with
    | nil => cases e
    | cons b y =>
      simp only [okx, List.all_cons, Bool.and_eq_true] at hx hy
      simp only [List.map_cons, List.cons.injEq] at e
      rw [ch_inj O hx.1 hy.1 e.1, ih hx.2 hy.2 e.2]
theorem tx_beq {θ : Th} (O : θ.Ok) {x y : List Nat} (hx : okx x = true) (hy : okx y = true) : (θ.tx x == θ.tx y) = nlb x y := by
  cases h : nlb x y with
  | true => rw [nlb_iff.mp h]; simp
  | false =>
    have := nlb_false h
    have h2 : ¬ θ.tx x = θ.tx y := fun e => this ((tx_inj O hx hy).mp e)
    simpa using h2

section
variable {cx : Cx} {θ : Th} {X ρ ρ' : List Addr} {H H' : AH} {s s' s'' : Shared} {A : Around} {v : AV} {x y : Value}

theorem Aft.bool {b : Bool} {t : AB} (S : St cx θ ρ H s) (h : b = t.is θ) : Res cx θ ρ s H (.bool t) (.bool b) s := .here S (by rw [h]; rfl)
theorem lt_add {m n c : Int} : decide (m + c < n + c) = ilt m n := by
  rw [Bool.eq_iff_iff, ilt_iff, decide_eq_true_iff]; exact Int.add_lt_add_iff_right c
theorem eq_add {m n c : Int} : (m + c == n + c) = ieq m n := by
  rw [Bool.eq_iff_iff, ieq_iff, beq_iff_eq]; exact Int.add_left_inj c
theorem le_not {i j : Int} : decide (i ≤ j) = !decide (j < i) := by
  rw [← decide_not]; exact decide_eq_decide.mpr Int.not_lt.symm
theorem leaf_key {op : CmpOp} {cop : COp} {m n c : Int} {t u : Tok} {r : AB} (S : St cx θ ρ H s) (ho : copOf op = some cop) (e : cmpI cop m n = some r) :
    Tri cx A (compareOp op (.int (m + c) t) (.int (n + c) u)) s (Res cx θ ρ s H (.bool r)) := by
  cases op with
  | Eq => obtain rfl := Option.some.inj ho; obtain rfl := Option.some.inj e; exact eq_int (.bool S eq_add)
  | NotEq => obtain rfl := Option.some.inj ho; obtain rfl := Option.some.inj e; exact ne_int (.bool S (congrArg not eq_add))
  | Lt => obtain rfl := Option.some.inj ho; obtain rfl := Option.some.inj e; exact lt_int (.bool S lt_add)
  | LtE => obtain rfl := Option.some.inj ho; obtain rfl := Option.some.inj e; exact le_int (.bool S (le_not.trans (congrArg not lt_add)))
  | Gt => obtain rfl := Option.some.inj ho; obtain rfl := Option.some.inj e; exact gt_int (.bool S lt_add)
  | Is => obtain rfl := Option.some.inj ho; exact no_el e
  | IsNot => obtain rfl := Option.some.inj ho; exact no_el e
  | _ => exact no_el ho
theorem eqT_ok {p q : PE} {t u : Tok} {r : AB} (S : St cx θ ρ H s) (e : eqT p q = some r) : Tri cx A (compareOp .Eq (.int (p.eval θ.v) t) (.int (q.eval θ.v) u)) s (Res cx θ ρ s H (.bool r)) :=
  cnd_el e fun h e => Option.some.inj e ▸ eq_int (.bool S (beq_iff_eq.mpr (eqP_eval h)))
theorem litA_out {a : AI} {m : Int} (e : litA a = some m) : a = .lit m := by
  cases a with
  | lit i => exact congrArg AI.lit (Option.some.inj e)
  | _ => exact no_el e
theorem offA_out {a : AI} {m : Int} (e : offA a = some m) : a = .off m := by
  cases a with
  | off i => exact congrArg AI.off (Option.some.inj e)
  | _ => exact no_el e
theorem hofA_out {a : AI} {m : Int} (e : hofA a = some m) : a = .hof m := by
  cases a with
  | hof i => exact congrArg AI.hof (Option.some.inj e)
  | _ => exact no_el e
theorem leaf_sym {op : CmpOp} {cop : COp} {p : PE} {b : AI} {j : Int} {t u : Tok} {r : AB} (S : St cx θ ρ H s) (hb : AIs θ b j) (ho : copOf op = some cop) (e : acmp cop (.sym p) b = some r) :
    Tri cx A (compareOp op (.int (p.eval θ.v) t) (.int j u)) s (Res cx θ ρ s H (.bool r)) := by
  cases b with
  | lit i =>
    obtain rfl := (show j = i from hb)
    cases op with
    | Eq => obtain rfl := Option.some.inj ho; exact eqT_ok (q := .lit j) S e
    | Lt => obtain rfl := Option.some.inj ho; obtain rfl := Option.some.inj e; exact lt_int (.bool S rfl)
    | _ => first | exact no_el ho | (obtain rfl := Option.some.inj ho; exact no_el e)
  | sym q =>
    obtain rfl := (show j = q.eval θ.v from hb)
    cases op with
    | Eq => obtain rfl := Option.some.inj ho; exact eqT_ok S e
    | _ => first | exact no_el ho | (obtain rfl := Option.some.inj ho; exact no_el e)
  | _ => exact no_el e
theorem leaf_int {op : CmpOp} {cop : COp} {a b : AI} {i j : Int} {t u : Tok} {r : AB} (S : St cx θ ρ H s) (ha : AIs θ a i) (hb : AIs θ b j) (ho : copOf op = some cop) (e : acmp cop a b = some r) :
    Tri cx A (compareOp op (.int i t) (.int j u)) s (Res cx θ ρ s H (.bool r)) := by
  cases a with
  | lit m =>
    refine ob_el e fun n h e => ?_
    obtain rfl := litA_out h
    obtain rfl := (show i = m from ha)
    obtain rfl := (show j = n from hb)
    have := leaf_key (c := 0) (m := i) (n := j) (t := t) (u := u) (A := A) S ho e
    rw [Int.add_zero, Int.add_zero] at this
    exact this
  | off m =>
    refine ob_el e fun n h e => ?_
    obtain rfl := offA_out h
    exact (show i = _ from ha) ▸ (show j = _ from hb) ▸ leaf_key S ho e
  | hof m =>
    refine ob_el e fun n h e => ?_
    obtain rfl := hofA_out h
    exact (show i = _ from ha) ▸ (show j = _ from hb) ▸ leaf_key S ho e
  | sym p => exact (show i = _ from ha) ▸ leaf_sym S hb ho e
  | _ => exact no_el e

theorem okc_lt {c : Nat} (O : θ.Ok) (h : okc c = true) : θ.ch c < 0x110000 := by
  refine okc_el h (fun h _ => (ch_plain h).symm ▸ h) fun k hk h => ?_
  rw [h, ch_fk]
  exact Nat.lt_of_le_of_lt ((sg_facts θ.b O.b).2 k hk).2 (by decide)
theorem isStrs_out {l : List AV} : ∀ {xs : List (List Nat)}, isStrs l = some xs → l = xs.map .str := by
  induction l with
  | nil => exact fun e => Option.some.inj e ▸ rfl
  | cons u r ih =>
    intro xs e
    cases u with
    | str x =>
      refine ob_el e fun l hl e => ?_
      obtain rfl := Option.some.inj e
      exact congrArg (AV.str x :: ·) (ih hl)
    | _ => exact no_el e
theorem strs_reads {h : Heap} {xs : List (List Nat)} : ∀ {ys : List Value}, All2 (VRel θ ρ) (xs.map .str) ys → ReadsAll h ys (xs.map fun x => PyData.str (θ.tx x)) [] := by
  induction xs with
  | nil => exact fun e => by cases e; exact .nil
  | cons x xs ih =>
    intro ys e
    cases e with
    | cons a t =>
      obtain ⟨tk, rfl⟩ := a
      exact ReadsAll.cons (Reads.str (h := h) (θ.tx x) tk) (ih t)
theorem strs_eqv (O : θ.Ok) {xs : List (List Nat)} : ∀ {ys : List (List Nat)}, xs.all okx = true → ys.all okx = true → PyData.eqvAll (xs.map fun x => PyData.str (θ.tx x)) (ys.map fun x => PyData.str (θ.tx x)) = nllb xs ys := by
  induction xs with
  | nil => intro ys _ _; cases ys <;> rfl
  | cons x xs ih =>
    intro ys h h'
    cases ys with
    | nil => rfl
    | cons y ys =>
      have h := and_t h
      have h' := and_t h'
      exact congr (congrArg and (tx_beq O h.1 h'.1)) (ih h.2 h'.2)
theorem strs_lay (O : θ.Ok) : ∀ {xs : List (List Nat)}, xs.all okx = true → PyData.canLayAll0 (xs.map fun x => PyData.str (θ.tx x)) = true ∧ PyData.depthAll (xs.map fun x => PyData.str (θ.tx x)) = 0
  | [], _ => by simp [PyData.canLayAll0, PyData.depthAll]
  | x :: xs, h => by
    simp only [List.all_cons, Bool.and_eq_true] at h
    obtain ⟨a, b⟩ := strs_lay O h.2
    have hx : PyData.strOk (θ.tx x) = true := by
      unfold PyData.strOk
      rw [← Array.all_toList, List.all_eq_true]
      intro c hc
      have hc : c ∈ x.map θ.ch := by simpa [Th.tx] using hc
      obtain ⟨d, hd, rfl⟩ := List.mem_map.mp hc
      have := List.all_eq_true.mp h.1 d hd
      exact decide_eq_true (okc_lt O this)
    simp [PyData.canLayAll0, PyData.depthAll, PyData.canLay0, PyData.depth, hx, a, b]
theorem strs_shaped (O : θ.Ok) {xs : List (List Nat)} (h : xs.all okx = true) : SeqAt.shaped (.tuple (xs.map fun x => PyData.str (θ.tx x))) = true := by
  obtain ⟨a, b⟩ := strs_lay O h
  simp [SeqAt.shaped, PyData.canLay0, PyData.depth, a, b]

theorem ab_out {b : Bool} {v : AV} (h : ab b = some v) : v = .bool (.lit b) := by cases h; rfl

theorem eqB_ok {p q : AB} {t : Bool} (h : eqB p q = some t) : (p.is θ == q.is θ) = t := by
  cases p with
  | lit x => cases q with
    | lit y => exact Option.some.inj h
    | _ => exact no_el h
  | lt p i => cases q with
    | lt q j =>
      refine cnd_el h fun h1 h => ?_
      obtain rfl := Option.some.inj h
      rw [AB.is, AB.is, eqP_eval (f := θ.v) (and_t h1).1, ieq_iff.mp (and_t h1).2]
      exact beq_self_eq_true _
    | _ => exact no_el h
theorem isv_el {a b : AV} {t : Bool} {P : Value → Value → Prop} (ha : VRel θ ρ a x) (hb : VRel θ ρ b y) (h : isv a b = some t) (k1 : ∀ p q : Bool, (p == q) = t → P (.bool p) (.bool q)) (k2 : ∀ x, (x == Value.none) = t → P x .none) : P x y := by
  cases b with
  | none =>
    obtain rfl := (show y = .none from hb)
    cases a with
    | none => exact (show x = .none from ha) ▸ k2 .none (Option.some.inj (show some true = some t from h))
    | ref _ => obtain ⟨_, _, rfl⟩ := ha; exact k2 _ (Option.some.inj h)
    | int _ => obtain ⟨_, _, rfl, _⟩ := ha; exact k2 _ (Option.some.inj h)
    | str _ => obtain ⟨_, rfl⟩ := ha; exact k2 _ (Option.some.inj h)
    | _ => exact no_el h
  | bool q =>
    obtain rfl := (show y = .bool (q.is θ) from hb)
    cases a with
    | bool p => exact (show x = .bool (p.is θ) from ha) ▸ k1 _ _ (eqB_ok h)
    | _ => exact no_el h
  | _ => exact no_el h
theorem isNil_out {α : Type} {l : List α} (h : isNil l = true) : l = [] := by
  cases l with
  | nil => rfl
  | cons _ _ => exact nomatch h
theorem all_nil {α β : Type} {R : α → β → Prop} {l : List β} (h : All2 R [] l) : l = [] := by
  cases h; rfl
theorem leaf_ne (O : θ.Ok) (hA : AOk A 8) (S : St cx θ ρ H s) {i j : Nat} {v : AV} (ha : VRel θ ρ (.ref i) x) (hb : VRel θ ρ (.ref j) y) (e : cmpRef H i j = some v) : Tri cx A (compareOp .NotEq x y) s (Res cx θ ρ s H v) := by
  have hu : A.units + 64 < cLine := Nat.lt_of_le_of_lt (Nat.add_le_add_left (by decide) _) hA.un
  obtain ⟨a', ha', rfl⟩ := ha
  obtain ⟨b', hb', rfl⟩ := hb
  refine ob_el e fun o h1 e => ob_el e fun p h2 e => ?_
  obtain ⟨o1, ho1, r1⟩ := S.getO ha' h1
  obtain ⟨o2, ho2, r2⟩ := S.getO hb' h2
  cases o with
  | tup l => cases p with
    | tup l' =>
      refine ob_el e fun xs h3 e => ob_el e fun ys h4 e => cnd_el e fun h e => ?_
      obtain rfl := ab_out e
      obtain ⟨vs, n, rfl, hv⟩ := r1
      obtain ⟨us, m, rfl, hw⟩ := r2
      rw [isStrs_out h3] at hv
      rw [isStrs_out h4] at hw
      obtain ⟨h, h'⟩ := and_t h
      exact ne_dataH (.tuple ho1 rfl rfl (strs_reads hv)) (.tuple ho2 rfl rfl (strs_reads hw)) (strs_shaped O h) (strs_shaped O h') hu (.bool S (congrArg not (strs_eqv O h h')))
    | _ => exact no_el e
  | list l => cases p with
    | list l' =>
      refine cnd_el e fun h e => ?_
      obtain rfl := ab_out e
      obtain ⟨h, h'⟩ := and_t h
      obtain rfl := isNil_out h
      obtain rfl := isNil_out h'
      obtain ⟨vs, n, rfl, hv⟩ := r1
      obtain ⟨us, m, rfl, hw⟩ := r2
      exact ne_dataH (.list (xs := []) (as := []) ho1 rfl rfl (by rw [all_nil hv]; exact .nil)) (.list (xs := []) (as := []) ho2 rfl rfl (by rw [all_nil hw]; exact .nil)) rfl rfl hu (.bool S rfl)
    | _ => exact no_el e
  | _ => exact no_el e
theorem leaf_str (O : θ.Ok) (S : St cx θ ρ H s) {op : CmpOp} {cop : COp} {a b : List Nat} {t u : Tok} (ho : copOf op = some cop) (e : cmpX cop a b = some v) : Tri cx A (compareOp op (.str (θ.tx a) t) (.str (θ.tx b) u)) s (Res cx θ ρ s H v) := by
  cases op with
  | Eq =>
    obtain rfl := Option.some.inj ho
    refine cnd_el e fun h e => ?_
    obtain rfl := ab_out e
    exact PyProof.Rows.eq_str (.bool S ((tx_beq O (and_t h).1 (and_t h).2).trans (Bool.false_xor _).symm))
  | NotEq =>
    obtain rfl := Option.some.inj ho
    refine cnd_el e fun h e => ?_
    obtain rfl := ab_out e
    exact PyProof.Rows.ne_str (.bool S ((congrArg not (tx_beq O (and_t h).1 (and_t h).2)).trans (Bool.true_xor _).symm))
  | _ => first | exact no_el ho | (obtain rfl := Option.some.inj ho; exact no_el e)
theorem leaf_vals (O : θ.Ok) (hA : AOk A 8) (S : St cx θ ρ H s) {a b v : AV} {op : CmpOp} {cop : COp} (ha : VRel θ ρ a x) (hb : VRel θ ρ b y) (ho : copOf op = some cop) (e : cmpV H cop a b = some v) :
    Tri cx A (compareOp op x y) s (Res cx θ ρ s H v) := by
  cases a with
  | int _ => cases b with
    | int _ =>
      refine ob_el e fun r hr e => ?_
      obtain rfl := Option.some.inj e
      obtain ⟨i, t, rfl, ha⟩ := ha
      obtain ⟨j, u, rfl, hb⟩ := hb
      exact leaf_int S ha hb ho hr
    | _ => exact no_el e
  | str _ => cases b with
    | str _ =>
      obtain ⟨t, rfl⟩ := ha
      obtain ⟨u, rfl⟩ := hb
      exact leaf_str O S ho e
    | _ => exact no_el e
  | ref _ => cases b with
    | ref _ =>
      cases op with
      | NotEq => obtain rfl := Option.some.inj ho; exact leaf_ne O hA S ha hb e
      | _ => first | exact no_el ho | (obtain rfl := Option.some.inj ho; exact no_el e)
    | _ => exact no_el e
  | _ => exact no_el e
theorem leaf_cmp (O : θ.Ok) (hA : AOk A 8) (S : St cx θ ρ H s) {a b v : AV} {op : CmpOp} {cop : COp} (ha : VRel θ ρ a x) (hb : VRel θ ρ b y) (ho : copOf op = some cop) (e : compare H cop a b = some v) :
    Tri cx A (compareOp op x y) s (Res cx θ ρ s H v) := by
  cases op with
  | Is =>
    obtain rfl := Option.some.inj ho
    refine ob_el e fun t ht e => ?_
    obtain rfl := ab_out e
    exact isv_el (P := fun x y => Tri cx A (compareOp .Is x y) s (Res cx θ ρ s H (.bool (.lit t)))) ha hb ht (fun _ _ h => is_bool (.bool S h)) fun _ h => is_none_gen (.bool S h)
  | IsNot =>
    obtain rfl := Option.some.inj ho
    refine ob_el e fun t ht e => ?_
    obtain rfl := ab_out e
    exact isv_el (P := fun x y => Tri cx A (compareOp .IsNot x y) s (Res cx θ ρ s H (.bool (.lit (!t))))) ha hb ht (fun _ _ h => isnot_bool (.bool S (congrArg not h))) fun _ h => isnot_none_gen (.bool S (congrArg not h))
  | _ => first | exact no_el ho | (obtain rfl := Option.some.inj ho; exact leaf_vals O hA S ha hb rfl e)
end
end Mine
namespace Mine
open PySem PySem.W PyProof.Rows PySem.Calls
section
variable {cx : Cx} {θ : Th} {X ρ ρ' : List Addr} {H H' : AH} {s s' s'' : Shared} {A : Around} {v : AV} {x y z : Value}

/-- the table of the signs -/
noncomputable def DictOk (cx : Cx) : Prop := ∃ o es ep, cx.h₀.get? 197 = some o ∧ o.ExactDict ∧ o.data = .dict es ep ∧ KeysOf (strKind cx.prog cx.w) es ∧ ∀ k, k < 13 → ∃ t, findBy (strKind cx.prog cx.w).is es ⟨#[signs13.getD k 0]⟩ = some (.int (14 + k) t)

theorem nth_some {α : Type} {l : List α} {a : α} : ∀ {n : Nat}, nth l n = some a → l[n]? = some a := by
  induction l with
  | nil => exact fun e => no_el e
  | cons b r ih =>
    intro n e
    cases n with
    | zero => exact e
    | succ n => exact ih (n := n) e
theorem idx_el {len n : Nat} {a : AI} {i : Int} {P : Int → Nat → Prop} (h : idxOf len a = some n) (ha : AIs θ a i) (pos : ∀ n : Nat, n < len → P n n) (neg : ∀ m, len = m + 1 → P (-1) m) : P i n := by
  cases a with
  | lit j =>
    obtain rfl := (show i = j from ha)
    cases i with
    | ofNat k => exact cnd_el h fun h1 h => Option.some.inj h ▸ pos k (Nat.blt_eq.mp h1)
    | negSucc k =>
      refine cnd_el h fun h1 h2 => ?_
      obtain rfl := beq_t (and_t h1).1
      obtain rfl := Option.some.inj h2
      cases len with
      | zero => exact nomatch (and_t h1).2
      | succ m => exact neg m rfl
  | _ => exact no_el h
theorem fit_nat {n len : Nat} (h : n < len) (hz : len < 2 ^ 62) : -(2 ^ 63) ≤ (n : Int) ∧ (n : Int) < 2 ^ 63 := ⟨Int.le_trans (by decide) (Int.natCast_nonneg n), Int.lt_of_lt_of_le (Int.ofNat_lt.mpr (Nat.lt_trans h hz)) (by decide)⟩
theorem minus_one {m : Nat} : ((-1 : Int) + ((m + 1 : Nat) : Int)).toNat = m := by omega
theorem minus_le {m : Nat} : -((m + 1 : Nat) : Int) ≤ -1 := Int.neg_le_neg (Int.ofNat_le.mpr (Nat.le_add_left 1 m))
theorem idx_seq {len n : Nat} {a : AI} {i : Int} (h : idxOf len a = some n) (ha : AIs θ a i) (hz : len < 2 ^ 62) : -(2 ^ 63) ≤ i ∧ i < 2 ^ 63 ∧ seqIndex? i len = some n :=
  idx_el (P := fun i n => -(2 ^ 63) ≤ i ∧ i < 2 ^ 63 ∧ seqIndex? i len = some n) h ha (fun n h => ⟨(fit_nat h hz).1, (fit_nat h hz).2, StrLaws.seqIndex_nonneg (Int.natCast_nonneg n) (Int.ofNat_lt.mpr h)⟩)
    fun _ e => ⟨by decide, by decide, by subst e; exact (seqIndex_neg (by decide) minus_le).trans (congrArg some minus_one)⟩

theorem itemStr_ok {l : List Nat} {t : Tok} {a : AI} {i : Int} {u : Tok} (S : St cx θ ρ H s) (ha : AIs θ a i) (e : itemStr l a = some v) : Tri cx A (getItem (.str (θ.tx l) t) (.int i u)) s (Res cx θ ρ s H v) := by
  refine cnd_el e fun hz e => ob_el e fun n hn e => ob_el e fun c hc e => ?_
  obtain rfl := Option.some.inj e
  have hc := nth_some hc
  have hcc : (θ.tx l).cps[n]? = some (θ.ch c) := by
    show (l.map θ.ch).toArray[n]? = _
    rw [List.getElem?_toArray, List.getElem?_map, hc]; rfl
  obtain ⟨h1, h2, h3⟩ := idx_seq hn ha (Nat.lt_of_le_of_lt (Nat.le_of_ble_eq_true hz) (by decide))
  refine PyProof.Rows.getItem_str (c := θ.ch c) ?_ ?_ (.same S rfl rfl rfl ⟨_, rfl⟩)
  · rw [decide_eq_false (Int.not_lt.mpr h1), decide_eq_false (Int.not_le.mpr h2)]; rfl
  · rw [tx_len, h3]; exact hcc

theorem itemList_ok {a : Addr} {vs : Array Value} {ix : AI} {i : Int} {u : Tok} {xs : List AV} {n : Nat} (S : St cx θ ρ H s) (hl : s.heap.IsList a vs) (hv : All2 (VRel θ ρ) xs vs.toList) (ha : AIs θ ix i) (h1 : idxOf xs.length ix = some n) (h2 : nth xs n = some v) (hz : vs.size < 2 ^ 62) :
    Tri cx A (getItem (.ref a) (.int i u)) s (Res cx θ ρ s H v) := by
  obtain ⟨w, hw, hr⟩ := hv.nth h2
  have hlen : xs.length = vs.size := hv.length
  have hw' : vs[n]? = some w := Array.getElem?_toList.symm.trans hw
  rw [hlen] at h1
  exact idx_el (P := fun i n => vs[n]? = some w → Tri cx A (getItem (.ref a) (.int i u)) s (Res cx θ ρ s H v)) h1 ha (fun n h hw => wpAny_getItem_list hl (Int.natCast_nonneg n) (fit_nat h hz).2 hw (.here S hr))
    (fun m e hw => wpAny_getItem_list_neg hl (by decide) (by rw [e]; exact minus_le) (by decide) (by rw [e, minus_one]; exact hw) (.here S hr)) hw'
theorem itemTup_ok {a : Addr} {vs : Array Value} {m : Nat} {ix : AI} {i : Int} {u : Tok} {xs : List AV} {n : Nat} (S : St cx θ ρ H s) (hl : s.heap.get? a = some { cls := .type "tuple", data := .seq vs m }) (hv : All2 (VRel θ ρ) xs vs.toList) (ha : AIs θ ix i) (h1 : idxOf xs.length ix = some n) (h2 : nth xs n = some v) (hz : vs.size < 2 ^ 62) :
    Tri cx A (getItem (.ref a) (.int i u)) s (Res cx θ ρ s H v) := by
  obtain ⟨w, hw, hr⟩ := hv.nth h2
  have hlen : xs.length = vs.size := hv.length
  obtain ⟨h3, h4, h5⟩ := idx_seq (hlen ▸ h1) ha hz
  exact PySem.P.getItem_tuple (k := n) hl h3 h4 h5 (Array.getElem?_toList.symm.trans hw) (.here S hr)

theorem tok_ok (O : θ.Ok) (D : DictOk cx) (S : St cx θ ρ H s) {n c : Nat} {t : Tok} (e : tokOf n c = some v) : Tri cx A (getItem (.ref n) (.str (θ.tx [c]) t)) s (Res cx θ ρ s H v) := by
  refine cnd_el e fun h e => ?_
  obtain rfl := Option.some.inj e
  obtain ⟨h, h3⟩ := and_t h
  obtain ⟨h1, h2⟩ := and_t h
  obtain rfl := beq_t h1
  obtain ⟨k, rfl⟩ := Nat.exists_eq_add_of_le (Nat.le_of_ble_eq_true h2)
  rw [Nat.add_sub_cancel_left]
  obtain ⟨o, es, ep, ho, hex, hd, hk, hf⟩ := D
  obtain ⟨t', ht'⟩ := hf (θ.b + k) (Nat.lt_succ_of_le (Nat.add_le_add (Nat.le_of_lt_succ O.b) (Nat.le_of_add_le_add_left (Nat.le_of_ble_eq_true h3))))
  have e1 : θ.tx [fakeAt + k] = ⟨#[signs13.getD (θ.b + k) 0]⟩ := congrArg (fun c => (⟨[c].toArray⟩ : Str)) ch_fk
  rw [e1]
  refine wpAny_getItem_of (knd := strKind cx.prog cx.w) (k := ⟨#[signs13.getD (θ.b + k) 0]⟩) (strKind_is _ _ _ _) ⟨o, es, ep, S.base _ _ ho, hex, hd, hk, fun _ => rfl⟩ ht' (.same S rfl rfl rfl ⟨_, _, rfl, ?_⟩)
  show (14 + ((θ.b + k : Nat) : Int)) = Int.ofNat (14 + k) + θ.b
  simp only [Int.ofNat_eq_natCast]
  omega
end
end Mine
namespace Mine
open PySem PySem.W PyProof.Rows PySem.Calls
section
variable {cx : Cx} {θ : Th} {X ρ ρ' : List Addr} {H H' : AH} {s s' s'' : Shared} {A : Around} {v : AV} {x y z : Value}

theorem made_ok {c : Prop} [Decidable c] {x y r : Str} {t : Tok} {Q : Value → Shared → Prop} (e : (if c then x else y) = r) (hl : r.cps.size ≤ sizeLine) (h : ∀ s' t', s'.heap = s.heap → s'.gens = s.gens → s'.os = s.os → Q (.str r t') s') :
    (if c then Made.val (.str x t) else .str y : Made).post Q s := by
  by_cases hc : c
  · rw [if_pos hc] at e ⊢; exact e ▸ h s t rfl rfl rfl
  · rw [if_neg hc] at e ⊢; exact e ▸ ⟨hl, h _ _ rfl rfl rfl⟩
theorem strSlice_ok {x : Str} {t : Tok} {sl : Addr} {lo hi : Option (Int × Tok)} {a b : Nat} {Q : Value → Shared → Prop} (hs : s.heap.IsSlice sl lo hi none) (hlo : (lo.map (·.1) = none ∧ a = 0) ∨ lo.map (·.1) = some (a : Int)) (hhi : (hi.map (·.1) = none ∧ b = x.length) ∨ hi.map (·.1) = some (b : Int))
    (hab : a ≤ b) (hb : b ≤ x.length) (hx : x.length ≤ sizeLine) (h : ∀ s' t', s'.heap = s.heap → s'.gens = s.gens → s'.os = s.os → Q (.str ⟨((x.cps.toList.drop a).take (b - a)).toArray⟩ t') s') : Tri cx A (getItem (.str x t) (.ref sl)) s Q :=
  have e1 : Builtin.Str.strSliceIndices (lo.map (·.1)) (hi.map (·.1)) 1 x.length = Builtin.Str.strSliceIndices (some (a : Int)) (hi.map (·.1)) 1 x.length := hlo.elim (fun h => by rw [h.1, h.2]; exact StrLaws.sliceIdx_none_lo _ _) fun h => by rw [h]
  have e2 : Builtin.Str.strSliceIndices (some (a : Int)) (hi.map (·.1)) 1 x.length = Builtin.Str.strSliceIndices (some (a : Int)) (some (b : Int)) 1 x.length := hhi.elim (fun h => by rw [h.1, h.2]; exact StrLaws.sliceIdx_none_hi _ _) fun h => by rw [h]
  wpAny_getItem_str_slice hs rfl (made_ok ((congrArg (fun l : List Nat => if ((1 : Int) == 1 && l.length == x.length) = true then x else (⟨(l.filterMap fun i => x.cps[i]?).toArray⟩ : Str)) (e1.trans e2)).trans (StrLaws.sliceText_nat x hab hb))
    (Nat.le_trans ((List.take_sublist _ _).trans (List.drop_sublist _ _)).length_le hx) h)

theorem bnd_out {dflt len n : Nat} {u : AV} {w : Value} (h : bnd dflt len u = some n) (hv : VRel θ ρ u w) : (w = .none ∧ n = dflt) ∨ ∃ t, w = .int (n : Int) t ∧ n ≤ len := by
  cases u with
  | none => exact .inl ⟨hv, (Option.some.inj h).symm⟩
  | int a => cases a with
    | lit i => cases i with
      | ofNat m =>
        refine cnd_el h fun h1 h => ?_
        obtain rfl := Option.some.inj h
        obtain ⟨i, t, rfl, rfl⟩ := hv
        exact .inr ⟨t, rfl, Nat.le_of_ble_eq_true h1⟩
      | _ => exact no_el h
    | _ => exact no_el h
  | _ => exact no_el h
theorem bnds_out {len : Nat} {l u : AV} {p : Nat × Nat} (h : bnds len l u = some p) : bnd 0 len l = some p.1 ∧ bnd len len u = some p.2 ∧ p.1 ≤ p.2 :=
  ob_el h fun a h1 h => ob_el h fun b h2 h => cnd_el h fun h3 h => Option.some.inj h ▸ ⟨h1, h2, Nat.le_of_ble_eq_true h3⟩
theorem tx_slice (l : List Nat) (a b : Nat) : (⟨(((θ.tx l).cps.toList.drop a).take (b - a)).toArray⟩ : Str) = θ.tx (sliceN l a b) := by
  show (⟨_⟩ : Str) = ⟨((sliceN l a b).map θ.ch).toArray⟩
  unfold sliceN
  rw [List.map_drop, List.map_take, List.drop_take]
  rfl
theorem signs_tx : θ.tx signs13 = ⟨signs13.toArray⟩ := congrArg (fun l : List Nat => (⟨l.toArray⟩ : Str)) (map_eq_self fun a ha => ch_plain (Nat.lt_trans ((show ∀ c ∈ signs13, c < 126 by decide) a ha) (by decide)))
theorem drawn_signs : ∀ b, b < 11 → (signs13.drop b).take 3 = [signs13.getD b 0, signs13.getD (b + 1) 0, signs13.getD (b + 2) 0] := by decide

theorem bndP_ok {dflt len n : Nat} {u : AV} {w : Value} (h : bnd dflt len u = some n) (hv : VRel θ ρ u w) (hd : dflt ≤ len) : ∃ p : Option (Int × Tok), w = partValue p ∧ ((p.map (·.1) = none ∧ n = dflt) ∨ p.map (·.1) = some (n : Int)) ∧ n ≤ len := by
  rcases bnd_out h hv with ⟨rfl, h⟩ | ⟨t, rfl, h⟩
  · exact ⟨none, rfl, .inl ⟨rfl, h⟩, h ▸ hd⟩
  · exact ⟨some (n, t), rfl, .inr rfl, h⟩
theorem drawn_ok (O : θ.Ok) {l : List Nat} {t : Tok} {lo up : AV} {a : Addr} (S : St cx θ ρ H s) (hy : VRel θ ρ lo y) (hz : VRel θ ρ up z) (hs : s.heap.get? a = some { cls := .type "slice", data := .fields #[y, z, .none] }) (e : drawnThree l lo up = some v) :
    Tri cx A (getItem (.str (θ.tx l) t) (.ref a)) s (Res cx θ ρ s H v) := by
  cases lo with
  | int i => cases i with
    | off i => cases up with
      | int j => cases j with
        | off j =>
          refine cnd_el e fun h e => ?_
          obtain rfl := Option.some.inj e
          obtain ⟨h, h3⟩ := and_t h
          obtain ⟨h1, h2⟩ := and_t h
          obtain rfl := nlb_iff.mp h1
          obtain rfl := ieq_iff.mp h2
          obtain rfl := ieq_iff.mp h3
          obtain ⟨i, t1, rfl, hi⟩ := hy
          obtain ⟨j, t2, rfl, hj⟩ := hz
          obtain rfl := (show i = ((θ.b : Nat) : Int) from Eq.trans hi (Int.zero_add _))
          obtain rfl := (show j = ((θ.b + 3 : Nat) : Int) from Eq.trans hj (Int.add_comm 3 _))
          rw [signs_tx]
          refine strSlice_ok (a := θ.b) (b := θ.b + 3) (lo := some ((θ.b : Nat), t1)) (hi := some (((θ.b + 3 : Nat) : Int), t2)) ⟨_, hs, rfl, rfl⟩ (.inr rfl) (.inr rfl) (Nat.le_add_right _ 3) (Nat.add_le_add_right (Nat.le_of_lt_succ O.b) 3) (by decide) fun s' t' h1 h2 h3 => .same S h1 h2 h3 ⟨t', ?_⟩
          rw [Nat.add_sub_cancel_left]
          exact congrArg (fun l : List Nat => Value.str ⟨l.toArray⟩ t') (drawn_signs _ O.b)
        | _ => exact no_el e
      | _ => exact no_el e
    | _ => exact no_el e
  | _ => exact no_el e
theorem strslc_ok (O : θ.Ok) {l : List Nat} {t : Tok} {lo up : AV} {a : Addr} (S : St cx θ ρ H s) (hy : VRel θ ρ lo y) (hz : VRel θ ρ up z) (hs : s.heap.get? a = some { cls := .type "slice", data := .fields #[y, z, .none] })
    (e : sliceOf H (.str l) lo up = some (v, H')) : Tri cx A (getItem (.str (θ.tx l) t) (.ref a)) s (Res cx θ ρ s H' v) := by
  refine cnd_el e fun h0 e => ?_
  have hl := tx_len (θ := θ) l
  cases hp : bnds l.length lo up with
  | some p =>
    rw [hp] at e
    obtain ⟨rfl, rfl⟩ := sm2 e
    obtain ⟨h1, h2, h3⟩ := bnds_out hp
    obtain ⟨lo', rfl, hl1, _⟩ := bndP_ok h1 hy (Nat.zero_le _)
    obtain ⟨hi', rfl, hh1, hb⟩ := bndP_ok h2 hz (Nat.le_refl _)
    rw [← hl] at hh1 hb
    refine strSlice_ok ⟨_, hs, rfl, rfl⟩ hl1 hh1 h3 hb (by rw [hl]; exact Nat.le_trans (ble_t h0) (by decide)) fun s' t' h1 h2 h3 => ?_
    rw [tx_slice]
    exact .same S h1 h2 h3 ⟨t', rfl⟩
  | none =>
    rw [hp] at e
    refine ob_el e fun u hu e => ?_
    obtain ⟨rfl, rfl⟩ := sm2 e
    exact drawn_ok O S hy hz hs hu

/-- a slice of a list-like thing: what its items are -/
theorem pick_ok {vs : Array Value} {xs : List AV} {lo up : AV} {p : Nat × Nat} {y z : Value} (hv : All2 (VRel θ ρ) xs vs.toList) (hy : VRel θ ρ lo y) (hz : VRel θ ρ up z) (hp : bnds xs.length lo up = some p) :
    ∃ lo' hi', IsPart y lo' ∧ IsPart z hi' ∧ All2 (VRel θ ρ) (sliceN xs p.1 p.2) (slicePick vs lo' hi' none).toList ∧ (slicePick vs lo' hi' none).size ≤ vs.size := by
  obtain ⟨h1, h2, h3⟩ := bnds_out hp
  have hlen : xs.length = vs.size := hv.length
  have rel : All2 (VRel θ ρ) (sliceN xs p.1 p.2) ((vs.toList.take p.2).drop p.1) := (hv.take p.2).drop p.1
  have ht : vs.toList.take xs.length = vs.toList := List.take_of_length_le (Nat.le_of_eq hlen.symm)
  have fin : ∀ {lo' hi'}, (slicePick vs lo' hi' none) = ((vs.toList.take p.2).drop p.1).toArray → All2 (VRel θ ρ) (sliceN xs p.1 p.2) (slicePick vs lo' hi' none).toList ∧ (slicePick vs lo' hi' none).size ≤ vs.size :=
    fun h => ⟨by rw [h]; exact rel, slicePick_size_le _ _ _ _⟩
  rcases bnd_out h1 hy with ⟨rfl, h4⟩ | ⟨t, rfl, h4⟩
  · rcases bnd_out h2 hz with ⟨rfl, h5⟩ | ⟨t', rfl, h5⟩
    · exact ⟨none, none, .none, .none, fin ((slicePick_all _).trans (by rw [h4, h5, ht]; rfl))⟩
    · exact ⟨none, some p.2, .none, .int _ _, fin ((slicePick_upto vs p.2 (hlen ▸ h5)).trans (by rw [h4]; rfl))⟩
  · rcases bnd_out h2 hz with ⟨rfl, h5⟩ | ⟨t', rfl, h5⟩
    · exact ⟨some p.1, none, .int _ _, .none, fin ((slicePick_from vs p.1 (hlen ▸ h4)).trans (by rw [h5, ht]))⟩
    · exact ⟨some p.1, some p.2, .int _ _, .int _ _, fin ((slicePick_run vs p.1 p.2 (hlen ▸ h5) h3).trans (congrArg List.toArray List.drop_take.symm))⟩
end
end Mine
namespace Mine
open PySem PySem.W PyProof.Rows PySem.Calls

/-- what is asked of the class that is a list of its own -/
structure AccOk (K : Frag) : Prop where
  get : findIn K (.ref 178) "__getitem__" = some (some (.builtin "list.__getitem__"))
  set : findIn K (.ref 178) "__setitem__" = some (some (.builtin "list.__setitem__"))
  iter : findIn K (.ref 178) "__iter__" = some (some (.builtin "list.__iter__"))
  sub : subIn K (.ref 178) (.type "list") = some true
  noseq : noSeq K 178 = true

section
variable {cx : Cx} {θ : Th} {X ρ ρ' : List Addr} {H H' : AH} {s s' s'' : Shared} {A : Around} {v : AV} {x y z : Value} {M : Model} {K : Frag} {E : Value → Shared → Prop}

theorem acc_type {h : Heap} {a d : Addr} {vs : Array Value} {n : Nat} (ho : h.get? a = some { cls := .ref 178, dict := some d, data := .seq vs n }) : Looks M h (typeOf (.ref a)) (.ref 178) :=
  (Looks.ld (part := none) ho).andThen .now
theorem acc_special {h : Heap} {a d : Addr} {vs : Array Value} {n : Nat} {name : Str} {r : Option Value} (X : K.In h) (ho : h.get? a = some { cls := .ref 178, dict := some d, data := .seq vs n }) (e : findIn K (.ref 178) name = some r) :
    Looks M h (specialOf (.ref a) name) r := (acc_type ho).andThen (looks_findIn X e)
theorem acc_inst {h : Heap} {a d : Addr} {vs : Array Value} {n : Nat} (X : K.In h) (O : AccOk K) (ho : h.get? a = some { cls := .ref 178, dict := some d, data := .seq vs n }) :
    Looks M h (isInstance (.ref a) (.type "list")) true := (acc_type ho).andThen (looks_subIn X O.sub)
theorem acc_check {i n : String} {a d : Addr} {vs : Array Value} {m : Nat} {rest : List Value} {Q : Unit → Shared → Prop} (X : K.In s.heap) (O : AccOk K) (ho : s.heap.get? a = some { cls := .ref 178, dict := some d, data := .seq vs m })
    (hk : builtinKind i = some .slot ∨ builtinKind i = some .method) (hs : splitId i = some ("list", n)) (ha : argsOk i ⟨.ref a :: rest, []⟩) (q : Q () s) : wpAny M A (checkBuiltinCall i ⟨.ref a :: rest, []⟩) Q E s := by
  rcases hk with hk | hk
  · exact check_slot hk hs (acc_inst X O ho) ha q
  · simp only [checkBuiltinCall, hk, hs]
    refine wpAny_bind ((acc_inst X O ho).here ?_)
    simp only [Bool.not_true, Bool.false_eq_true, if_false]
    cases hsig : Manifest.signature? i with
    | none => exact wpAny_pure q
    | some sig =>
      simp only [argsOk, hsig] at ha
      have h2 : Bind.checkArgs i sig ⟨.ref a :: rest, []⟩ = pure () := ha
      show wpAny M A (Bind.checkArgs i sig ⟨.ref a :: rest, []⟩) Q E s
      rw [h2]; exact wpAny_pure q
theorem acc_call {i n : String} {b : Builtin} {a d : Addr} {vs : Array Value} {m : Nat} {rest : List Value} {Q : Value → Shared → Prop} (X : K.In s.heap) (O : AccOk K) (ho : s.heap.get? a = some { cls := .ref 178, dict := some d, data := .seq vs m })
    (hk : builtinKind i = some .slot ∨ builtinKind i = some .method) (hs : splitId i = some ("list", n)) (hp : plainId i = true) (hb : entryFor table i = some b) (ha : argsOk i ⟨.ref a :: rest, []⟩)
    (h : Tri cx A.in1 (b ⟨.ref a :: rest, []⟩) s fun fin s' => ∃ v, fin = .done (.ret v) ∧ Q v s') : Tri cx A (call (.builtin i) (.ref a :: rest)) s Q := by
  refine wpAny_call (codeAny_call_builtin hp hb (acc_check X O ho hk hs ha (wpAny_mono h (fun fin s' h' => ?_) fun _ _ e => e)))
  obtain ⟨v, rfl, hv⟩ := h'
  exact hv

/-- one object's items changed, all else of it kept -/
theorem seqBut {h : Heap} {a d : Addr} {vs : Array Value} {n : Nat} (f : Array Value → Array Value) (ho : h.get? a = some { cls := .ref 178, dict := some d, data := .seq vs n }) :
    ∃ m, (h.update a (Obj.mapSeq f)).get? a = some { cls := .ref 178, dict := some d, data := .seq (f vs) m } := ⟨_, Heap.get?_update_self _ ho rfl⟩
theorem listBut {h : Heap} {a : Addr} {vs : Array Value} {n : Nat} (f : Array Value → Array Value) (ho : h.get? a = some { cls := .type "list", data := .seq vs n }) :
    ∃ m, (h.update a (Obj.mapSeq f)).get? a = some { cls := .type "list", data := .seq (f vs) m } := ⟨_, Heap.get?_update_self _ ho rfl⟩

theorem acc_append {a d : Addr} {vs : Array Value} {m : Nat} {w : Value} {Q : Value → Shared → Prop} (X : K.In s.heap) (O : AccOk K) (ho : s.heap.get? a = some { cls := .ref 178, dict := some d, data := .seq vs m }) (hz : vs.size ≤ sizeLine)
    (h : Q .none { s with heap := s.heap.update a (Obj.mapSeq (·.push w)) }) : Tri cx A (call (.builtin "list.append") [.ref a, w]) s Q := by
  refine acc_call X O ho (.inr (by decide +kernel)) (n := "append") (by decide +kernel) slot_list_append.plain entry_list_append (args_list_append _ _) ?_
  show wpAny _ _ (updateSeq a (·.push w) >>= fun _ => ret .none) _ _ s
  exact wpAny_bind (wpAny_updateSeq ho rfl (wpAny_pure ⟨.none, rfl, h⟩))

theorem acc_key {a d : Addr} {vs : Array Value} {m : Nat} {i : Value} {name : Str} {Q : Value → Shared → Prop} (X : K.In s.heap) (O : AccOk K) (ho : s.heap.get? a = some { cls := .ref 178, dict := some d, data := .seq vs m }) (h : Q i s) : wpAny M A (sequenceKey (.ref a) i name) Q E s := by
  unfold sequenceKey
  refine wpAny_bind ((acc_type ho).here ?_)
  refine wpAny_bind ((anyM_none X O.noseq).here ?_)
  rw [if_pos (show (!false) = true from rfl)]
  exact wpAny_pure h
theorem acc_callSpecial {a d : Addr} {vs : Array Value} {m : Nat} {args : List Value} {T : String} {name : Str} {id : String} {Q : Option Value → Shared → Prop} (X : K.In s.heap) (ho : s.heap.get? a = some { cls := .ref 178, dict := some d, data := .seq vs m })
    (hf : findIn K (.ref 178) name = some (some (.builtin id))) (sl : Slot T name id) (h : Tri cx A (call (.builtin id) (.ref a :: args)) s fun v => Q (some v)) : Tri cx A (callSpecial? (.ref a) name args) s Q := by
  simp only [callSpecial?]
  refine wpAny_bind ((acc_special X ho hf).here ?_)
  simp only [sl.bind]
  exact wpAny_holding (wpAny_bind (wpAny_pure (wpAny_bind (wpAny_mono h (fun v s' h' => wpAny_pure h') fun _ _ h' => h'))))
theorem acc_get {a d : Addr} {vs : Array Value} {m : Nat} {i : Value} {Q : Value → Shared → Prop} (X : K.In s.heap) (O : AccOk K) (ho : s.heap.get? a = some { cls := .ref 178, dict := some d, data := .seq vs m })
    (hc : Tri cx A (call (.builtin "list.__getitem__") [.ref a, i]) s Q) : Tri cx A (getItem (.ref a) i) s Q := by
  unfold getItem
  refine wpAny_holding (wpAny_bind (acc_key X O ho ?_))
  exact wpAny_bind (acc_callSpecial X ho O.get slot_list_getitem (wpAny_mono hc (fun v s' h' => wpAny_pure h') fun _ _ e => e))

theorem acc_item {a d : Addr} {vs : Array Value} {m : Nat} {k : Int} {t : Tok} {w : Value} {Q : Value → Shared → Prop} (X : K.In s.heap) (O : AccOk K) (ho : s.heap.get? a = some { cls := .ref 178, dict := some d, data := .seq vs m })
    (h0 : 0 ≤ k) (hfit : k < 2 ^ 63) (hw : vs[k.toNat]? = some w) (h : Q w s) : Tri cx A (getItem (.ref a) (.int k t)) s Q := by
  refine acc_get X O ho (acc_call X O ho (.inr (by decide +kernel)) (n := "__getitem__") (by decide +kernel) slot_list_getitem.plain entry_list_getitem (args_list_getitem _ _) ?_)
  show wpAny _ _ (Builtin.List.listSubscript? (.int k t) >>= _) _ _ s
  refine wpAny_bind (wpAny_listSubscript_int (fitsIndex_of h0 hfit) ?_)
  clear hfit
  obtain ⟨j, rfl⟩ := Int.eq_ofNat_of_zero_le h0
  have hx' : vs[j]? = some w := hw
  show wpAny _ _ ((seqItemAt a j >>= fun r => pure (r.map (j, ·))) >>= _) _ _ s
  refine wpAny_bind (wpAny_bind (wpAny_seqItemAt ho rfl (wpAny_pure ?_)))
  rw [hx']
  first
    | exact wpAny_bind (wpAny_pure (wpAny_pure ⟨w, rfl, h⟩))
    | exact wpAny_pure ⟨w, rfl, h⟩
theorem acc_item_neg {a d : Addr} {vs : Array Value} {m : Nat} {k : Int} {t : Tok} {w : Value} {Q : Value → Shared → Prop} (X : K.In s.heap) (O : AccOk K) (ho : s.heap.get? a = some { cls := .ref 178, dict := some d, data := .seq vs m })
    (h0 : k < 0) (h1 : -(vs.size : Int) ≤ k) (hfit : -(2 ^ 63) ≤ k) (hw : vs[(k + vs.size).toNat]? = some w) (h : Q w s) : Tri cx A (getItem (.ref a) (.int k t)) s Q := by
  refine acc_get X O ho (acc_call X O ho (.inr (by decide +kernel)) (n := "__getitem__") (by decide +kernel) slot_list_getitem.plain entry_list_getitem (args_list_getitem _ _) ?_)
  show wpAny _ _ (Builtin.List.listSubscript? (.int k t) >>= _) _ _ s
  refine wpAny_bind (wpAny_listSubscript_int (fitsIndex_neg h0 hfit) ?_)
  clear hfit
  have hidx := seqIndex_neg h0 h1
  obtain ⟨j, rfl⟩ : ∃ j : Nat, k = Int.negSucc j := by
    cases k with
    | ofNat n => exact absurd h0 (Int.not_lt.mpr (Int.natCast_nonneg n))
    | negSucc n => exact ⟨n, rfl⟩
  show wpAny _ _ ((Builtin.List.listItems (.ref a) >>= fun xs => pure ((seqIndex? (Int.negSucc j) xs.size).bind fun i => xs[i]?.map (i, ·))) >>= _) _ _ s
  refine wpAny_bind (wpAny_bind ?_)
  show wpAny _ _ (seqItems? (.ref a) >>= _) _ _ s
  refine wpAny_bind (wpAny_seqItems ho rfl (wpAny_pure (wpAny_pure ?_)))
  rw [hidx]
  simp only [Option.bind_some, hw, Option.map_some]
  first
    | exact wpAny_bind (wpAny_pure (wpAny_pure ⟨w, rfl, h⟩))
    | exact wpAny_pure ⟨w, rfl, h⟩
theorem acc_slice {a d sl : Addr} {vs : Array Value} {m : Nat} {vl vu : Value} {lo hi : Option Int} {Q : Value → Shared → Prop} (X : K.In s.heap) (O : AccOk K) (ho : s.heap.get? a = some { cls := .ref 178, dict := some d, data := .seq vs m })
    (hs : s.heap.get? sl = some { cls := .type "slice", data := .fields #[vl, vu, .none] }) (pl : IsPart vl lo) (pu : IsPart vu hi) (hsz : vs.size ≤ sizeLine)
    (h : Q (.ref s.heap.objs.size) { s with heap := s.heap.push { cls := .type "list", data := .seq (slicePick vs lo hi none) } }) : Tri cx A (getItem (.ref a) (.ref sl)) s Q := by
  have hTs : s.TypeIs (.ref sl) "slice" := ⟨_, hs, rfl⟩
  refine acc_get X O ho (acc_call X O ho (.inr (by decide +kernel)) (n := "__getitem__") (by decide +kernel) slot_list_getitem.plain entry_list_getitem (args_list_getitem _ _) ?_)
  show wpAny _ _ (Builtin.List.listSubscript? (.ref sl) >>= _) _ _ s
  refine wpAny_bind ?_
  · unfold Builtin.List.listSubscript?
    refine wpAny_bind (wpAny_specialOf hTs slice_no_index ?_)
    simp only [Option.isNone_none, if_true]
    refine wpAny_pure ?_
    show wpAny _ _ (typeOf (.ref sl) >>= _) _ _ s
    refine wpAny_bind (wpAny_typeOf hTs ?_)
    rw [if_neg (by decide)]
    rw [listSliceParts_eq]
    refine wpAny_bind (wpAny_bind (wpAny_field hs rfl (x := .none) rfl (wpAny_bind (wpAny_listPart .none ?_))))
    rw [if_neg (by exact Bool.false_ne_true)]
    refine wpAny_bind (wpAny_field hs rfl (x := vl) rfl (wpAny_bind (wpAny_listPart pl ?_)))
    refine wpAny_bind (wpAny_field hs rfl (x := vu) rfl (wpAny_bind (wpAny_listPart pu (wpAny_pure ?_))))
    refine wpAny_bind (m := Builtin.List.listItems (.ref a)) ?_
    · unfold Builtin.List.listItems
      refine wpAny_bind (wpAny_seqItems ho rfl (wpAny_pure ?_))
      refine wpAny_bind (wpAny_of_eq (sliceIndices_raw lo hi none vs.size (by simp)) ?_)
      exact wpAny_bind (wpAny_newObj_type (wpAny_pure ⟨_, rfl, h⟩) (Nat.le_trans (slicePick_size_le vs lo hi none) hsz))
theorem acc_unless {a d : Addr} {vs : Array Value} {m : Nat} {T : String} {name : Str} {id : String} {refuse : Sem Value} {Q : Option Value → Shared → Prop} (X : K.In s.heap) (ho : s.heap.get? a = some { cls := .ref 178, dict := some d, data := .seq vs m })
    (hf : findIn K (.ref 178) name = some (some (.builtin id))) (sl : Slot T name id) (hc : Tri cx A (call (.builtin id) [.ref a]) s fun v => Q (some v)) : Tri cx A (callSpecialIfBoundUnlessNone? (.ref a) name refuse) s Q := by
  simp only [callSpecialIfBoundUnlessNone?, bindSpecialIfBound?]
  refine wpAny_holding (wpAny_bind (wpAny_bind ((acc_special X ho hf).here ?_)))
  simp only [sl.bind]
  refine wpAny_bind (wpAny_askSetting (wpAny_ite ?_))
  have fin : Tri cx A (if (Value.builtin id == Value.none) = true then (refuse >>= fun v => pure (some v)) else (call (.builtin id) [.ref a] >>= fun v => pure (some v))) s Q := by
    simp only [builtin_beq_none, Bool.false_eq_true, if_false]
    exact wpAny_bind (wpAny_mono hc (fun v s' h' => wpAny_pure h') fun _ _ h' => h')
  split
  · exact wpAny_bind (wpAny_pure (wpAny_pure fin))
  · exact wpAny_tryCatch (wpAny_bind (wpAny_pure (wpAny_pure fin)))
theorem acc_iter {a d : Addr} {vs : Array Value} {m : Nat} {Q : Value → Shared → Prop} (X : K.In s.heap) (O : AccOk K) (ho : s.heap.get? a = some { cls := .ref 178, dict := some d, data := .seq vs m })
    (h : Q (.ref s.heap.objs.size) { s with heap := s.heap.push { cls := .type "list_iterator", data := .fields #[.ref a, .int 0 0] } }) : Tri cx A (pyIter (.ref a)) s Q := by
  unfold pyIter
  refine wpAny_bind ((acc_special X ho O.iter).here ?_)
  show wpAny _ A (callSpecialIfBoundUnlessNone? (.ref a) "__iter__" _ >>= _) _ _ s
  refine wpAny_bind (acc_unless X ho O.iter slot_list_iter (acc_call X O ho (.inl (by decide +kernel)) (n := "__iter__") (by decide +kernel) slot_list_iter.plain entry_list_iter (args_list_iter _) ?_))
  show wpAny _ _ (do ret (← newFields "list_iterator" [.ref a, rawInt 0])) _ _ s
  refine wpAny_bind (wpAny_newObj_type (wpAny_pure ⟨_, rfl, ?_⟩))
  exact wpAny_bind (wpAny_specialOf (T := "list_iterator") ⟨_, Heap.get?_push_size _ rfl, rfl⟩ slot_listiter_next.lookup (wpAny_pure h))

/-- the items behind a place put anew -/
theorem acc_setSlice {a d sl b : Addr} {vs us : Array Value} {m k : Nat} {vl : Value} {lo : Nat} {Q : Unit → Shared → Prop} (X : K.In s.heap) (O : AccOk K) (ho : s.heap.get? a = some { cls := .ref 178, dict := some d, data := .seq vs m })
    (hs : s.heap.get? sl = some { cls := .type "slice", data := .fields #[vl, .none, .none] }) (pl : (vl = .none ∧ lo = 0) ∨ ∃ t, vl = .int (lo : Int) t) (hlo : lo ≤ vs.size) (hb : s.heap.get? b = some { cls := .type "list", data := .seq us k }) (hab : a ≠ b)
    (hz : vs.size ≤ 8192) (hz' : us.size ≤ 8192) (h : ∀ s', (∃ m', s'.heap.get? a = some { cls := .ref 178, dict := some d, data := .seq (vs.toList.take lo ++ us.toList).toArray m' }) → Heap.SameBut a s.heap s'.heap → s'.gens = s.gens → s'.os = s.os → Q () s') :
    Tri cx A (setItem (.ref a) (.ref sl) (.ref b)) s Q := by
  have hTs : s.TypeIs (.ref sl) "slice" := ⟨_, hs, rfl⟩
  unfold setItem
  refine wpAny_holding (wpAny_bind (acc_key X O ho ?_))
  refine wpAny_bind (acc_callSpecial X ho O.set slot_list_setitem (acc_call X O ho (.inl (by decide +kernel)) (n := "__setitem__") (by decide +kernel) slot_list_setitem.plain entry_list_setitem (args_list_setitem _ _ _) ?_))
  show wpAny _ _ (Builtin.List.listSubscript? (.ref sl) >>= _) _ _ s
  have letgo : ∀ {l k : List Value} {Q : Unit → Shared → Prop} {s : Shared}, Q () s → Tri cx A.in1 (letGo l k) s Q := by
    intro l
    induction l with
    | nil => intro k Q s h; exact wpAny_pure h
    | cons x r ih => intro k Q s h; exact wpAny_bind (wpAny_holding (wpAny_point (ih h)))
  obtain ⟨lo', hlo', hb0⟩ : ∃ lo' : Option Int, IsPart vl lo' ∧ sliceBounds lo' none none vs.size = ((lo : Int), (vs.size : Int), 1) := by
    rcases pl with ⟨rfl, rfl⟩ | ⟨t, rfl⟩
    · exact ⟨none, .none, rfl⟩
    · refine ⟨some lo, .int _ _, ?_⟩
      simp only [sliceBounds, Option.getD_none]
      rw [if_neg (by omega : ¬ ((lo : Int) < 0))]
      simp only [show (1 : Int) > 0 by decide, if_true]
      congr 1
      omega
  refine wpAny_bind ?_
  unfold Builtin.List.listSubscript?
  refine wpAny_bind (wpAny_specialOf hTs slice_no_index ?_)
  simp only [Option.isNone_none, if_true]
  refine wpAny_pure ?_
  show wpAny _ _ (typeOf (.ref sl) >>= _) _ _ s
  refine wpAny_bind (wpAny_typeOf hTs ?_)
  rw [if_neg (by decide)]
  rw [listSliceParts_eq]
  refine wpAny_bind (wpAny_bind (wpAny_field hs rfl (x := .none) rfl (wpAny_bind (wpAny_listPart .none ?_))))
  rw [if_neg (by exact Bool.false_ne_true)]
  refine wpAny_bind (wpAny_field hs rfl (x := vl) rfl (wpAny_bind (wpAny_listPart hlo' ?_)))
  refine wpAny_bind (wpAny_field hs rfl (x := .none) rfl (wpAny_bind (wpAny_listPart .none (wpAny_pure ?_))))
  have hne : Builtin.List.listSameRef (.ref a) (.ref b) = false := by show (a == b) = false; simpa using hab
  rw [hne]
  refine wpAny_bind (m := Builtin.List.listAllItems (.ref b) _) ?_
  unfold Builtin.List.listAllItems
  refine wpAny_bind (wpAny_typeOf (T := "list") ⟨_, hb, rfl⟩ ?_)
  rw [if_pos (by decide)]
  have items : ∀ {c : Addr} {o : Obj} {ws : Array Value} {k : Nat} {Q : Array Value → Shared → Prop}, s.heap.get? c = some o → o.data = .seq ws k → Q ws s → Tri cx A.in1 (Builtin.List.listItems (.ref c)) s Q := by
    intro c o ws k Q h1 h2 h3
    unfold Builtin.List.listItems
    exact wpAny_bind (wpAny_seqItems h1 h2 (wpAny_pure h3))
  refine items hb rfl ?_
  refine wpAny_bind (m := Builtin.List.listItems (.ref a)) (items ho rfl ?_)
  refine wpAny_bind (wpAny_of_eq (sliceIndices_raw lo' none none vs.size (by simp)) ?_)
  rw [hb0]
  dsimp only
  rw [if_pos (by decide)]
  refine wpAny_bind (wpAny_rule ?_)
  have hlong : Builtin.List.listTooLong (vs.size + us.size) = false := by
    unfold Builtin.List.listTooLong
    have : (2 : Nat) ^ 24 = 16777216 := by decide
    unfold sizeLine
    exact decide_eq_false (by omega)
  rw [hlong]
  simp only [Bool.false_eq_true, if_false]
  refine wpAny_bind (m := Builtin.List.listUpdate (.ref a) _) ?_
  show wpAny _ _ (updateSeq a _) _ _ s
  have big : (16384 : Nat) ≤ sizeLine := by decide
  have hval : vs.extract 0 (lo : Int).toNat ++ us ++ vs.extract (max (lo : Int) (vs.size : Int)).toNat vs.size = (vs.toList.take lo ++ us.toList).toArray := by
    have e1 : (max (lo : Int) (vs.size : Int)).toNat = vs.size := by omega
    rw [e1]
    apply Array.ext'
    simp
  refine wpAny_updateSeq ho rfl ?_ (by omega) (by rw [hval]; simp; omega)
  refine wpAny_bind (letgo (wpAny_pure ⟨.none, rfl, wpAny_pure (h _ ?_ (Heap.SameBut.update ..) rfl rfl)⟩))
  obtain ⟨m', hm'⟩ := seqBut (fun xs => xs.extract 0 (lo : Int).toNat ++ us ++ xs.extract (max (lo : Int) (vs.size : Int)).toNat xs.size) ho
  rw [hval] at hm'
  exact ⟨m', hm'⟩
end
end Mine
namespace Mine
open PySem PySem.W PyProof.Rows PySem.Calls

/-- what is asked of a class whose objects hold the fields -/
structure ClsOk (K : Frag) (C : Addr) : Prop where
  set : findIn K (.ref C) "__setattr__" = some (some (.builtin "object.__setattr__"))
  own : ∀ nm ∈ attrs, findIn K (.ref C) nm = some none
  dict : hasDictIn K C = true
  over : ∃ cd, clsIn K C = some cd ∧ (∀ self, refuseLoop self "__setattr__" cd.mro = pure ()) ∧ cd.mro.isEmpty = false ∧ cd.mro.contains (.type "object") = true

section
variable {cx : Cx} {θ : Th} {X ρ ρ' : List Addr} {H H' : AH} {s s' s'' : Shared} {A : Around} {v : AV} {x y z : Value} {M : Model} {K : Frag} {E : Value → Shared → Prop}

theorem refuse_acc (self : Value) : refuseLoop self "__setattr__" [.ref 178, .type "list", .type "object"] = pure () := by
  rw [refuseLoop_ref]; kernel_rfl
theorem refuse_page (self : Value) : refuseLoop self "__setattr__" [.ref 94, .type "object"] = pure () := by
  rw [refuseLoop_ref]; exact PySem.F.store_object.passes self

/-! the dict of fields -/
theorem attrs_inj : ∀ i : Nat, i < 7 → ∀ j : Nat, j < 7 → attrs[i]? = attrs[j]? → i = j := by decide +kernel
theorem ent_inj {i j : Nat} {nm : Str} (h : attrs[i]? = some nm) (h' : attrs[j]? = some nm) : i = j :=
  attrs_inj i (List.getElem?_eq_some_iff.mp h).1 j (List.getElem?_eq_some_iff.mp h').1 (h.trans h'.symm)
theorem isStr_str {x nm : Str} {t : Tok} : (Value.str x t).isStr nm = (x == nm) := rfl
theorem key_yes {d : DictEntry} {nm : Str} {t : Tok} (h : d.key = .str nm t) : d.key.isStr nm = true := by rw [h]; exact beq_self_eq_true nm
theorem key_no {d : DictEntry} {nm x : Str} {t : Tok} (h : d.key = .str x t) (hne : x ≠ nm) : d.key.isStr nm = false := by rw [h]; exact beq_false_of_ne hne
theorem key_noref {d : DictEntry} {x : Str} {t : Tok} (h : d.key = .str x t) : d.refKey = false := by rw [DictEntry.refKey, h]
theorem ent_noref {es : List (Nat × AV)} {ds : List DictEntry} (h : All2 (EntRel θ ρ) es ds) : ds.any (·.refKey) = false := by
  induction h with
  | nil => rfl
  | cons h t ih =>
    obtain ⟨x, tk, _, hk, _⟩ := h
    rw [List.any_cons, ih, Bool.or_false]
    exact key_noref hk
theorem getL_yes {nm : Str} {d : DictEntry} {ds : List DictEntry} (h : d.key.isStr nm = true) : getL nm (d :: ds) = some (some d.val) := by
  unfold getL; rw [List.find?_cons, h]
theorem getL_no {nm : Str} {d : DictEntry} {ds : List DictEntry} {y : Value} (h : d.key.isStr nm = false) (hy : getL nm ds = some (some y)) : getL nm (d :: ds) = some (some y) := by
  unfold getL at hy ⊢
  rw [List.find?_cons, h]
  dsimp only
  cases hf : ds.find? (·.key.isStr nm) with
  | some e => rw [hf] at hy; exact hy
  | none =>
    rw [hf] at hy
    cases hb : ds.any (·.refKey) with
    | true => rw [hb] at hy; exact no_el hy
    | false => rw [hb] at hy; exact no_el (Option.some.inj hy)
theorem ent_get {n : Nat} {nm : Str} (hn : attrs[n]? = some nm) {es : List (Nat × AV)} {ds : List DictEntry} {v : AV} (H : All2 (EntRel θ ρ) es ds) (e : field n es = some v) : ∃ y, getL nm ds = some (some y) ∧ VRel θ ρ v y := by
  induction H with
  | nil => exact no_el e
  | @cons p d _ _ h t ih =>
    obtain ⟨x, tk, hx, hk, hv⟩ := h
    change cond (Nat.beq n p.1) _ _ = _ at e
    cases hb : Nat.beq n p.1 with
    | true =>
      rw [hb] at e
      rw [← beq_t hb, hn] at hx
      exact ⟨_, getL_yes (key_yes (Option.some.inj hx ▸ hk)), Option.some.inj e ▸ hv⟩
    | false =>
      rw [hb] at e
      obtain ⟨y, hy, hr⟩ := ih e
      exact ⟨y, getL_no (key_no hk fun (e : x = nm) => Nat.ne_of_beq_eq_false hb (ent_inj hn (e ▸ hx))) hy, hr⟩
theorem ent_none {nm : Str} (hn : nm ∉ attrs) {es : List (Nat × AV)} {ds : List DictEntry} (h : All2 (EntRel θ ρ) es ds) : getL nm ds = some none := by
  have hf : ds.find? (·.key.isStr nm) = none := by
    induction h with
    | nil => rfl
    | cons h t ih =>
      obtain ⟨x, tk, hx, hk, _⟩ := h
      rw [List.find?_cons, key_no hk fun (e : x = nm) => hn (e ▸ List.mem_of_getElem? hx)]
      exact ih
  unfold getL
  rw [hf, ent_noref h]
  rfl
theorem ent_some_or {nm : Str} {es : List (Nat × AV)} {ds : List DictEntry} (h : All2 (EntRel θ ρ) es ds) : (getL nm ds).isSome = true := by
  unfold getL
  rw [ent_noref h]
  cases ds.find? (·.key.isStr nm) <;> rfl
theorem ent_set {n : Nat} {nm : Str} {v : AV} {y : Value} {hsh : Int} {tk : Tok} (hn : attrs[n]? = some nm) (hv : VRel θ ρ v y) {es : List (Nat × AV)} {ds : List DictEntry} (H : All2 (EntRel θ ρ) es ds) : All2 (EntRel θ ρ) (setField n v es) (putL nm hsh (.str nm tk) y ds) := by
  induction H with
  | nil => exact .cons ⟨nm, tk, hn, rfl, hv⟩ .nil
  | @cons p d _ _ h t ih =>
    have h' := h
    obtain ⟨x, tk', hx, hk, hv'⟩ := h
    rw [setField, putL]
    cases hb : Nat.beq n p.1 with
    | true =>
      rw [← beq_t hb, hn] at hx
      obtain rfl := Option.some.inj hx
      rw [if_pos (key_yes hk)]
      exact .cons ⟨nm, tk', hn, hk, hv⟩ t
    | false =>
      rw [if_neg (ne_true_of_eq_false (key_no hk fun (e : x = nm) => Nat.ne_of_beq_eq_false hb (ent_inj hn (e ▸ hx))))]
      exact .cons h' ih
theorem putL_length (nm : Str) (hsh : Int) (k v : Value) (ds : List DictEntry) : (putL nm hsh k v ds).length ≤ ds.length + 1 := by
  induction ds with
  | nil => exact Nat.le_refl _
  | cons e r ih =>
    rw [putL]
    split
    · exact Nat.le_succ _
    · exact Nat.succ_le_succ ih

theorem set_run {C x d : Addr} {ox : Obj} {ds : List DictEntry} {n : Nat} {name : Str} {v : Value} {Q : Unit → Shared → Prop} (X : K.In s.heap) (O : ClsOk K C) (hx : s.heap.get? x = some ox) (hc : ox.cls = .ref C) (hnc : notCls ox = true) (hd : ox.dict = some d) (hdd : s.heap.get? d = some (dictOf ds n))
    (hnm : name ∈ attrs) (hl : (getL name ds).isSome = true) (hz : ds.length ≤ 500)
    (h : ∀ s' n', Heap.SameBut d s.heap s'.heap → s'.gens = s.gens → s'.os = s.os → s'.heap.get? d = some (dictOf (putL name (PyData.keyHash cx.w.params name) (.str name (s.toks + 1)) v ds) n') → Q () s') : Tri cx A (setAttr (.ref x) name v) s Q := by
  have I : InstAt s.heap x ox C (some (dictOf ds n)) := ⟨hx, hc, hnc, by rw [hd]; exact hdd⟩
  refine set_plain X I O.set ?_
  obtain ⟨cd, hcd, hov, hne, hob⟩ := O.over
  have SF := PySem.F.store_object
  have sub : Looks (model cx.prog cx.w) s.heap (isInstance (.ref x) (.type "object")) true := I.type.andThen (looks_mroIn X (by unfold mroIn; rw [hcd, Option.bind_some, if_neg (by rw [hne]; decide), hob]))
  refine codeAny_call_builtin SF.slot.plain SF.entry (@check_slot (model cx.prog cx.w) _ _ { s with toks := s.toks + 1 } "object.__setattr__" "object" "__setattr__" (.ref x) [.str name s.toks, v] [] _ SF.kind SF.split sub (SF.args (.ref x) (.str name s.toks) v) ?_)
  have hm : Looks (model cx.prog cx.w) s.heap (mroOf (.ref C)) cd.mro := (looks_clsIn X hcd).andThen .now
  rw [osa_eq, refuse_eq]
  refine wpAny_bind (wpAny_bind (I.type.here (s := { s with toks := s.toks + 1 }) (wpAny_bind (hm.here (s := { s with toks := s.toks + 1 }) ?_))))
  rw [hov]
  refine wpAny_pure (wpAny_bind (I.type.here (s := { s with toks := s.toks + 1 }) (wpAny_bind ((looks_findIn X (O.own _ hnm)).here (s := { s with toks := s.toks + 1 }) (wpAny_bind (wpAny_pure ?_))))))
  dsimp only
  obtain ⟨cd', hcd', hdict⟩ := any_some O.dict
  rw [hcd] at hcd'
  cases hcd'
  obtain ⟨oc, odi, oda, osl⟩ := ox
  dsimp only at hc hd
  subst hc hd
  refine wpAny_bind (wpAny_pure (wpAny_bind (wpAny_bind (wpAny_loadPart hx (wpAny_bind ((looks_clsIn X hcd).here (s := { s with toks := s.toks + 1 }) ?_))))))
  rw [hdict]
  refine wpAny_pure (a := some d) (wpAny_bind (wpAny_pure (wpAny_bind ?_)))
  unfold nsSet
  refine wpAny_bind (wpAny_bind (wpAny_askSetting (wpAny_pure (wpAny_bind (wpAny_mkText (wpAny_bind (wpAny_loadPart hdd ?_)))))))
  dsimp only
  have c : (!ds.toArray.any (·.key.isStr name) && ds.toArray.any (·.refKey)) = false := by
    rw [← Array.any_toList, ← Array.any_toList]
    unfold getL at hl
    split at hl
    · rename_i en he
      rw [List.any_eq_true.mpr ⟨en, List.mem_of_find?_eq_some he, List.find?_some he⟩]; rfl
    · split at hl
      · cases hl
      · rename_i z; rw [Bool.not_eq_true] at z; rw [z, Bool.and_false]
  rw [aRefKeyMayBeTheName_at, c]
  have hput : Obj.putName name (PyData.keyHash cx.w.params name) (.str name (s.toks + 1)) v (dictOf ds n) = dictOf (putL name (PyData.keyHash cx.w.params name) (.str name (s.toks + 1)) v ds) (putN name ds n) := putName_dict ..
  have D' : (s.heap.update d (Obj.putName name (PyData.keyHash cx.w.params name) (.str name (s.toks + 1)) v)).get? d = some (dictOf (putL name (PyData.keyHash cx.w.params name) (.str name (s.toks + 1)) v ds) (putN name ds n)) := by
    rw [← hput]
    exact Heap.get?_update_self _ hdd (by rw [hput]; rfl)
  refine wpAny_updatePart hdd ?_
  refine wpAny_bind (wpAny_lookBehind D' (pastItsLine_dict (by rw [List.size_toArray, sizeLine_eq]; have := putL_length name (PyData.keyHash cx.w.params name) (.str name (s.toks + 1)) v ds; omega)) ?_)
  exact wpAny_pure (h _ _ (Heap.SameBut.update ..) rfl rfl D')

/-- an object with a dict: what is known of it -/
theorem dct_out {H : AH} {d : Nat} {es : List (Nat × AV)} (h : dctOf H d = some es) : H.get d = some (.dct es) := by
  unfold dctOf at h
  cases ho : H.get d with
  | none => rw [ho] at h; exact no_el h
  | some o =>
    rw [ho] at h
    cases o with
    | dct _ => exact congrArg (fun x => some (AO.dct x)) (Option.some.inj h)
    | _ => exact no_el h
theorem dictOfV_out {H : AH} {o : AV} {d : Nat} (h : dictOfV H o = some d) : ∃ k, o = .ref k ∧ (H.get k = some (.page d) ∨ ∃ xs, H.get k = some (.acc d xs)) := by
  cases o with
  | ref k =>
    refine ⟨k, rfl, ?_⟩
    refine ob_el h fun ao hao h => ?_
    cases ao with
    | page _ => exact .inl (hao.trans (congrArg (fun x => some (AO.page x)) (Option.some.inj h)))
    | acc _ xs => exact .inr ⟨xs, hao.trans (congrArg (fun x => some (AO.acc x xs)) (Option.some.inj h))⟩
    | _ => exact no_el h
  | _ => exact no_el h
theorem dict_out {o : AV} {d : Nat} {es : List (Nat × AV)} (S : St cx θ ρ H s) (hv : VRel θ ρ o x) (h1 : dictOfV H o = some d) (h2 : dctOf H d = some es) :
    ∃ a ox C da ds n, x = .ref a ∧ s.heap.get? a = some ox ∧ ox.cls = .ref C ∧ (C = 94 ∨ C = 178 ∧ ∃ vs m, ox = { cls := .ref 178, dict := some da, data := .seq vs m }) ∧ notCls ox = true ∧ ox.dict = some da ∧ ρ[d]? = some da ∧ s.heap.get? da = some (dictOf ds n) ∧ All2 (EntRel θ ρ) es ds := by
  obtain ⟨k, rfl, hg⟩ := dictOfV_out h1
  obtain ⟨a, ha, rfl⟩ := hv
  rcases hg with h | ⟨xs, h⟩
  · obtain ⟨_, hox, da, hda, rfl⟩ := S.getO ha h
    obtain ⟨_, hod, ds, n, rfl, he⟩ := S.getO hda (dct_out h2)
    exact ⟨a, _, 94, da, ds, n, rfl, hox, rfl, .inl rfl, rfl, rfl, hda, hod, he⟩
  · obtain ⟨_, hox, da, vs, m, hda, rfl, _⟩ := S.getO ha h
    obtain ⟨_, hod, ds, n, rfl, he⟩ := S.getO hda (dct_out h2)
    exact ⟨a, _, 178, da, ds, n, rfl, hox, rfl, .inr ⟨rfl, vs, m, rfl⟩, rfl, rfl, hda, hod, he⟩

theorem leaf_sat (C : COk cx) (P : ClsOk cx.K 94) (Q : ClsOk cx.K 178) {o : AV} {n : Nat} {nm : Str} (S : St cx θ ρ H s) (ho : VRel θ ρ o x) (hv : VRel θ ρ v y) (hn : attrs[n]? = some nm) (e : setAttrA H o n v = some H') :
    Tri cx A (setAttr x nm y) s fun _ => Aft cx θ [] ρ s H' fun _ => True := by
  refine ob_el e fun d h1 e => ob_el e fun es h2 e => cnd_el e fun hz e => ?_
  obtain rfl := Option.some.inj e
  obtain ⟨a, ox, Cc, da, ds, m, rfl, hox, hcls, hC, hnc, hd, hda, hdd, he⟩ := dict_out S ho h1 h2
  refine set_run (C.K.keeps S.base) (hC.elim (fun h => h ▸ P) fun h => h.1 ▸ Q) hox hcls hnc hd hdd (List.mem_of_getElem? hn) (ent_some_or he) (he.length ▸ Nat.le_trans (ble_t hz) (by decide)) fun s' n' hs hg hos hget => ?_
  obtain ⟨S', l⟩ := S.put (X := []) (ao := .dct (setField n v es)) hda hs hget ⟨_, n', rfl, ent_set hn hv he⟩
  exact ⟨ρ, ⟨l.tl, l.keep.heap, hos, l.keep.grow⟩, S'.same rfl hg, trivial⟩

theorem canon_list_ga : (Manifest.canonical "list.__getattribute__" != "object.__getattribute__") = false := by decide +kernel
/-- a field of an own list -/
theorem acc_att {a d : Addr} {vs : Array Value} {m : Nat} {ds : List DictEntry} {n : Nat} {name : Str} {u : Value} {Q : Value → Shared → Prop} (X : K.In s.heap) (AO : AccOk K) (O : ClsOk K 178) (hga : findIn K (.ref 178) "__getattribute__" = some (some (.builtin "list.__getattribute__"))) (hgt : findIn K (.ref 178) "__getattr__" = some none)
    (ho : s.heap.get? a = some { cls := .ref 178, dict := some d, data := .seq vs m }) (hd : s.heap.get? d = some (dictOf ds n)) (hnm : name ∈ attrs) (hl : getL name ds = some (some u)) (hh : handedIn u = true) (h : Q u { s with toks := s.toks + 1 }) :
    Tri cx A (getAttr (.ref a) name true) s Q := by
  have I : InstAt s.heap a { cls := .ref 178, dict := some d, data := .seq vs m } 178 (some (dictOf ds n)) := ⟨ho, rfl, rfl, hd⟩
  have hf : findObj K 178 (some (dictOf ds n)) name = some (.value u) := findObj_own O.dict (O.own _ hnm) rfl hl
  unfold getAttr getAttrBy
  refine wpAny_bind (wpAny_mkText (wpAny_holding (wpAny_bind (I.type.here (s := { s with toks := s.toks + 1 }) (wpAny_bind ((looks_findIn X hga).here (s := { s with toks := s.toks + 1 }) ?_))))))
  show Tri cx A (getAttrByItsOwn (.ref a) (.str name s.toks) (.ref 178) (.builtin "list.__getattribute__") true true) { s with toks := s.toks + 1 } Q
  unfold getAttrByItsOwn hookBefore callGetattribute boundAndCalled
  refine wpAny_bind ((looks_findIn X hgt).here (s := { s with toks := s.toks + 1 }) ?_)
  have body : Tri cx A (call (.builtin "list.__getattribute__") [.ref a, .str name s.toks]) { s with toks := s.toks + 1 } fun r s' => r = u ∧ s' = { s with toks := s.toks + 1 } := by
    refine acc_call (K := K) (s := { s with toks := s.toks + 1 }) X AO ho (.inl (by decide +kernel)) (n := "__getattribute__") (by decide +kernel) F.slot_list_getattribute.plain F.entry_list_ga (F.args_list_getattribute_2 _ _) ?_
    have fin : ∀ {k : Value → PySem.Builtin.ObjectAttr.Found → Sem Fin}, k (.ref 178) (.value u) = ret u → Tri cx A.in1 (typeOf (.ref a) >>= fun tp => PySem.Builtin.ObjectAttr.find (.ref a) tp name >>= k tp) { s with toks := s.toks + 1 } fun fin s' => ∃ v, fin = .done (.ret v) ∧ v = u ∧ s' = { s with toks := s.toks + 1 } := by
      intro k hk
      refine wpAny_bind (I.type.here (s := { s with toks := s.toks + 1 }) (wpAny_bind ((looks_find X I hf).here (s := { s with toks := s.toks + 1 }) ?_)))
      rw [hk]
      exact wpAny_pure ⟨_, rfl, rfl, rfl⟩
    first
      | (refine wpAny_bind (wpAny_pure (wpAny_bind (wpAny_pure (fin ?_)))); rfl)
      | (refine wpAny_bind (wpAny_pure (fin ?_)); rfl)
      | (refine fin ?_; rfl)
  refine wpAny_bind (wpAny_attempt (wpAny_holding ?_))
  show wpAny _ A (bindSpecial (.builtin "list.__getattribute__") (.ref a) >>= fun r => call r.1 (r.2 ++ [.str name s.toks])) _ _ _
  rw [F.slot_list_getattribute.bind]
  refine wpAny_bind (wpAny_pure (wpAny_mono body (fun r s' hr => ?_) fun _ _ e => e.elim))
  obtain ⟨rfl, rfl⟩ := hr
  show wpAny _ A (handedOut r) Q _ _
  rw [handedOut_of hh]
  exact wpAny_pure h
end
end Mine
namespace Mine
open PySem PySem.W PyProof.Rows PySem.Calls

/-- the methods that the two classes bear -/
structure MethOk (K : Frag) : Prop where
  pga : findIn K (.ref 94) "__getattribute__" = some (some (.builtin "object.__getattribute__"))
  pgt : findIn K (.ref 94) "__getattr__" = some none
  aga : findIn K (.ref 178) "__getattribute__" = some (some (.builtin "list.__getattribute__"))
  agt : findIn K (.ref 178) "__getattr__" = some none
  page : ∀ p ∈ ([("_append_chunk", 91), ("_str", 42), ("newline", 56), ("_maxlengths", 77)] : List (Str × Nat)), findIn K (.ref 94) p.1 = some (some (.ref p.2)) ∧ typeIn K (.ref p.2) = some (.type "function")
  acc : ∀ p ∈ ([("push", 122), ("pop_from", 130), ("reset", 160), ("is_onlyws", 167), ("part_count", 175), ("pop", 138)] : List (Str × Nat)), findIn K (.ref 178) p.1 = some (some (.ref p.2)) ∧ typeIn K (.ref p.2) = some (.type "function")
  app : findIn K (.ref 178) "append" = some (some (.builtin "list.append"))

section
variable {cx : Cx} {θ : Th} {X ρ ρ' : List Addr} {H H' : AH} {s s' s'' : Shared} {A : Around} {v : AV} {x y z : Value} {M : Model} {K : Frag} {E : Value → Shared → Prop}

theorem handed_ok {u : AV} {y : Value} (hp : plainV u = true) (hr : VRel θ ρ u y) : handedIn y = true := by
  cases u with
  | none => exact (show y = _ from hr) ▸ rfl
  | bool => exact (show y = _ from hr) ▸ rfl
  | int => obtain ⟨_, _, rfl, _⟩ := hr; rfl
  | str => obtain ⟨_, rfl⟩ := hr; rfl
  | tabs => obtain ⟨_, rfl⟩ := hr; rfl
  | ref => obtain ⟨_, _, rfl⟩ := hr; rfl
  | _ => exact nomatch hp
theorem leaf_att (C : COk cx) (AO : AccOk cx.K) (PO : ClsOk cx.K 94) (QO : ClsOk cx.K 178) (MO : MethOk cx.K) {o : AV} {n : Nat} {nm : Str} (S : St cx θ ρ H s) (ho : VRel θ ρ o x) (hn : attrs[n]? = some nm) (e : getAttrA H o n = some v) :
    Tri cx A (getAttr x nm true) s (Res cx θ ρ s H v) := by
  refine ob_el e fun d h1 e => ob_el e fun es h2 e => ob_el e fun u hu e => cnd_el e fun hp e => ?_
  obtain rfl := Option.some.inj e
  obtain ⟨a, ox, Cc, da, ds, m, rfl, hox, hcls, hC, hnc, hd, hda, hdd, he⟩ := dict_out S ho h1 h2
  obtain ⟨y, hy, hr⟩ := ent_get hn he hu
  have X := C.K.keeps S.base
  have fin : Res cx θ ρ s H u y { s with toks := s.toks + 1 } := .same S rfl rfl rfl hr
  rcases hC with rfl | ⟨rfl, vs, m', rfl⟩
  · exact get_value X (⟨hox, hcls, hnc, by rw [hd]; exact hdd⟩ : InstAt s.heap a ox 94 (some (dictOf ds m))) MO.pga (findObj_own PO.dict (PO.own _ (List.mem_of_getElem? hn)) rfl hy) (handed_ok hp hr) fin
  · exact acc_att X AO QO MO.aga MO.agt hox hdd (List.mem_of_getElem? hn) hy (handed_ok hp hr) fin

theorem acc_method {a d : Addr} {vs : Array Value} {m : Nat} {ds : List DictEntry} {k : Nat} {name : Str} {f : Value} {ta : String} {pl : Sem Bool} {Q : Value × List Value → Shared → Prop} (X : K.In s.heap) (MO : MethOk K) (ho : s.heap.get? a = some { cls := .ref 178, dict := some d, data := .seq vs m }) (hd : s.heap.get? d = some (dictOf ds k))
    (hf : findIn K (.ref 178) name = some (some f)) (ht : typeIn K f = some (.type ta)) (hta : (Value.type ta != .type "function" && Value.type ta != .type "method_descriptor" && Value.type ta != .type "wrapper_descriptor") = false) (hl : getL name ds = some none) (hq : Q (f, [.ref a]) s) :
    wpAny M A (getMethod (.ref a) name pl) Q E s := by
  have I : InstAt s.heap a { cls := .ref 178, dict := some d, data := .seq vs m } 178 (some (dictOf ds k)) := ⟨ho, rfl, rfl, hd⟩
  unfold getMethod specialOf
  refine wpAny_bind (wpAny_bind (I.type.here ((looks_findIn X MO.aga).here ?_)))
  dsimp only
  rw [canon_list_ga, if_neg (by decide)]
  refine wpAny_bind (wpAny_bind (I.type.here ((looks_findIn X MO.agt).here ?_)))
  refine wpAny_bind (wpAny_bind (I.type.here ((looks_findIn X hf).here (wpAny_bind ((looks_typeIn X ht).here ?_)))))
  rw [if_neg (by rw [hta]; decide)]
  refine wpAny_bind (wpAny_loadPart ho ?_)
  refine wpAny_bind (wpAny_bind (wpAny_loadPart hd ?_))
  rw [nsLook_of (show lookIn name (dictOf ds k) = some none from hl)]
  exact wpAny_pure (wpAny_bind (wpAny_rule (wpAny_pure hq)))

theorem notAttr : ∀ nm ∈ (["_append_chunk", "_str", "newline", "_maxlengths", "push", "pop_from", "reset", "is_onlyws", "part_count", "pop", "append"] : List Str), nm ∉ attrs := by decide +kernel

theorem pageMeth_ok (C : COk cx) (MO : MethOk cx.K) {k d : Nat} {nm : Str} {f : Nat} {pl : Sem Bool} {es : List (Nat × AV)} (S : St cx θ ρ H s) (ho : VRel θ ρ (.ref k) x) (hg : H.get k = some (.page d)) (hes : dctOf H d = some es) (hm : (nm, f) ∈ ([("_append_chunk", 91), ("_str", 42), ("newline", 56), ("_maxlengths", 77)] : List (Str × Nat))) (hna : nm ∉ attrs) :
    Tri cx A (getMethod x nm pl) s fun r s' => r = (.ref f, [x]) ∧ s' = s := by
  obtain ⟨a, ha, rfl⟩ := ho
  obtain ⟨ox, hox, da, hda, rfl⟩ := S.getO ha hg
  obtain ⟨od, hod, ds, n, rfl, he⟩ := S.getO hda (dct_out hes)
  have X := C.K.keeps S.base
  obtain ⟨h1, h2⟩ := MO.page _ hm
  have I : InstAt s.heap a (instObj 94 da) 94 (some (dictOf ds n)) := ⟨hox, rfl, rfl, hod⟩
  exact method_fn X I MO.pga MO.pgt h1 h2 (by show (lookIn nm (dictOf ds n)).map _ = _; rw [lookIn_dict, ent_none hna he]; rfl) ⟨rfl, rfl⟩
theorem accMeth_ok (C : COk cx) (MO : MethOk cx.K) {k d : Nat} {xs : List AV} {nm : Str} {f : Value} {ta : String} {pl : Sem Bool} {es : List (Nat × AV)} (S : St cx θ ρ H s) (ho : VRel θ ρ (.ref k) x) (hg : H.get k = some (.acc d xs)) (hes : dctOf H d = some es)
    (hf : findIn cx.K (.ref 178) nm = some (some f)) (ht : typeIn cx.K f = some (.type ta)) (hta : (Value.type ta != .type "function" && Value.type ta != .type "method_descriptor" && Value.type ta != .type "wrapper_descriptor") = false) (hna : nm ∉ attrs) :
    Tri cx A (getMethod x nm pl) s fun r s' => r = (f, [x]) ∧ s' = s := by
  obtain ⟨a, ha, rfl⟩ := ho
  obtain ⟨ox, hox, da, vs, m, hda, rfl, _⟩ := S.getO ha hg
  obtain ⟨od, hod, ds, n, rfl, he⟩ := S.getO hda (dct_out hes)
  exact acc_method (C.K.keeps S.base) MO hox hod hf ht hta (ent_none hna he) ⟨rfl, rfl⟩
theorem accPy_ok (C : COk cx) (MO : MethOk cx.K) {k d : Nat} {xs : List AV} {nm : Str} {f : Nat} {pl : Sem Bool} {es : List (Nat × AV)} (S : St cx θ ρ H s) (ho : VRel θ ρ (.ref k) x) (hg : H.get k = some (.acc d xs)) (hes : dctOf H d = some es)
    (hm : (nm, f) ∈ ([("push", 122), ("pop_from", 130), ("reset", 160), ("is_onlyws", 167), ("part_count", 175), ("pop", 138)] : List (Str × Nat))) (hna : nm ∉ attrs) :
    Tri cx A (getMethod x nm pl) s fun r s' => r = (.ref f, [x]) ∧ s' = s :=
  let ⟨h1, h2⟩ := MO.acc _ hm
  accMeth_ok C MO S ho hg hes h1 h2 (by decide +kernel) hna

noncomputable def meName : Me → Str
  | .append => "append" | .join => "join" | .split => "split" | .isspace => "isspace" | .index => "index" | .chunk => "_append_chunk" | .str_ => "_str" | .newline => "newline"
  | .push => "push" | .popFrom => "pop_from" | .reset => "reset" | .onlyws => "is_onlyws" | .count => "part_count" | .pop => "pop"
theorem meths_name : (meths.all fun p => se p.1 (meName p.2)) = true := rfl
theorem me_name {n : Me} {nm : Str} (hm : (nm, n) ∈ meths) : nm = meName n := se_iff.mp (List.all_eq_true.mp meths_name _ hm)
theorem mem2 {α : Type} {a b : α} {l : List α} : b ∈ a :: b :: l := .tail _ (.head _)
theorem mem3 {α : Type} {a b c : α} {l : List α} : c ∈ a :: b :: c :: l := .tail _ mem2
theorem mem4 {α : Type} {a b c d : α} {l : List α} : d ∈ a :: b :: c :: d :: l := .tail _ mem3
theorem mem5 {α : Type} {a b c d e : α} {l : List α} : e ∈ a :: b :: c :: d :: e :: l := .tail _ mem4
theorem mem6 {α : Type} {a b c d e f : α} {l : List α} : f ∈ a :: b :: c :: d :: e :: f :: l := .tail _ mem5
theorem strM_ok {n : Me} {l : List Nat} {t : Tok} {pl : Sem Bool} (hok : okKind 0 n = true) :
    Tri cx A (getMethod (.str (θ.tx l) t) (meName n) pl) s fun r s' => r = (methF 0 n, [.str (θ.tx l) t]) ∧ s' = s := by
  have go : ∀ {id : String} {nm : Str}, Slot "str" nm id → typeOf (.builtin id) = pure (.type "method_descriptor") → meName n = nm → methF 0 n = .builtin id → Tri cx A (getMethod (.str (θ.tx l) t) (meName n) pl) s fun r s' => r = (methF 0 n, [.str (θ.tx l) t]) ∧ s' = s := by
    intro id nm sl ty e1 e2
    rw [e1, e2]
    exact getMethod_builtin (typeIs_str s _ t) F.plainAttrs_str sl ty (fun a h => nomatch h) ⟨rfl, rfl⟩
  cases n with
  | join => exact go F.slot_str_join F.type_str_join rfl rfl
  | split => exact go F.slot_str_split F.type_str_split rfl rfl
  | isspace => exact go F.slot_str_isspace F.type_str_isspace rfl rfl
  | index => exact go F.slot_str_index F.type_str_index rfl rfl
  | _ => exact nomatch hok
theorem pageM_ok (C : COk cx) (MO : MethOk cx.K) {k d : Nat} {n : Me} {pl : Sem Bool} {es : List (Nat × AV)} (S : St cx θ ρ H s) (ho : VRel θ ρ (.ref k) x) (hg : H.get k = some (.page d)) (hes : dctOf H d = some es) (hok : okKind 2 n = true) :
    Tri cx A (getMethod x (meName n) pl) s fun r s' => r = (methF 2 n, [x]) ∧ s' = s := by
  have go : ∀ {nm : Str} {f : Nat}, (nm, f) ∈ ([("_append_chunk", 91), ("_str", 42), ("newline", 56), ("_maxlengths", 77)] : List (Str × Nat)) → nm ∉ attrs → Tri cx A (getMethod x nm pl) s fun r s' => r = (.ref f, [x]) ∧ s' = s := pageMeth_ok C MO S ho hg hes
  cases n with
  | chunk => exact go (.head _) (notAttr _ (.head _))
  | str_ => exact go mem2 (notAttr _ mem2)
  | newline => exact go mem3 (notAttr _ mem3)
  | _ => exact nomatch hok
theorem accM_ok (C : COk cx) (MO : MethOk cx.K) {k d : Nat} {xs : List AV} {n : Me} {pl : Sem Bool} {es : List (Nat × AV)} (S : St cx θ ρ H s) (ho : VRel θ ρ (.ref k) x) (hg : H.get k = some (.acc d xs)) (hes : dctOf H d = some es) (hok : okKind 3 n = true) :
    Tri cx A (getMethod x (meName n) pl) s fun r s' => r = (methF 3 n, [x]) ∧ s' = s := by
  have go : ∀ {nm : Str} {f : Nat}, (nm, f) ∈ ([("push", 122), ("pop_from", 130), ("reset", 160), ("is_onlyws", 167), ("part_count", 175), ("pop", 138)] : List (Str × Nat)) → nm ∉ attrs → Tri cx A (getMethod x nm pl) s fun r s' => r = (.ref f, [x]) ∧ s' = s := accPy_ok C MO S ho hg hes
  cases n with
  | append => exact accMeth_ok C MO S ho hg hes MO.app (ta := "method_descriptor") (by kernel_rfl) (by decide +kernel) (notAttr _ (.tail _ (.tail _ (.tail _ (.tail _ (.tail _ mem6))))))
  | push => exact go (.head _) (notAttr _ mem5)
  | popFrom => exact go mem2 (notAttr _ mem6)
  | reset => exact go mem3 (notAttr _ (.tail _ mem6))
  | onlyws => exact go mem4 (notAttr _ (.tail _ (.tail _ mem6)))
  | count => exact go mem5 (notAttr _ (.tail _ (.tail _ (.tail _ mem6))))
  | pop => exact go mem6 (notAttr _ (.tail _ (.tail _ (.tail _ (.tail _ mem6)))))
  | _ => exact nomatch hok
theorem listM_ok {k : Nat} {xs : List AV} {n : Me} {pl : Sem Bool} (S : St cx θ ρ H s) (ho : VRel θ ρ (.ref k) x) (hg : H.get k = some (.list xs)) (hok : okKind 1 n = true) :
    Tri cx A (getMethod x (meName n) pl) s fun r s' => r = (methF 1 n, [x]) ∧ s' = s := by
  obtain ⟨a, ha, rfl⟩ := ho
  obtain ⟨o, hoo, vs, m, rfl, _⟩ := S.getO ha hg
  cases n with
  | append => exact getMethod_builtin (T := "list") ⟨_, hoo, rfl⟩ F.plainAttrs_list F.slot_list_append F.type_list_append (fun b h => by cases h; exact ⟨_, hoo, rfl⟩) ⟨rfl, rfl⟩
  | _ => exact nomatch hok
theorem kindO_el {o : AV} {kd : Nat} {P : AV → Nat → Prop} (hk : kindO H o = some kd) (h0 : ∀ l, P (.str l) 0) (h1 : ∀ k xs, H.get k = some (.list xs) → P (.ref k) 1) (h2 : ∀ k d es, H.get k = some (.page d) → dctOf H d = some es → P (.ref k) 2)
    (h3 : ∀ k d xs es, H.get k = some (.acc d xs) → dctOf H d = some es → P (.ref k) 3) : P o kd := by
  cases o with
  | str l => exact Option.some.inj hk ▸ h0 l
  | ref k =>
    change (match H.get k with | some (.list _) => some 1 | some (.page d) => _ | some (.acc d _) => _ | _ => _) = _ at hk
    cases hg : H.get k with
    | none => rw [hg] at hk; exact no_el hk
    | some ao =>
      rw [hg] at hk
      cases ao with
      | list xs => exact Option.some.inj hk ▸ h1 k xs hg
      | page d => exact ob_el hk fun es hes hk => Option.some.inj hk ▸ h2 k d es hg hes
      | acc d xs => exact ob_el hk fun es hes hk => Option.some.inj hk ▸ h3 k d xs es hg hes
      | _ => exact no_el hk
  | _ => exact no_el hk
theorem leaf_getM (C : COk cx) (MO : MethOk cx.K) {o : AV} {kd : Nat} {n : Me} {nm : Str} {pl : Sem Bool} (S : St cx θ ρ H s) (ho : VRel θ ρ o x) (hk : kindO H o = some kd) (hok : okKind kd n = true) (hm : (nm, n) ∈ meths) :
    Tri cx A (getMethod x nm pl) s fun r s' => r = (methF kd n, [x]) ∧ s' = s :=
  me_name hm ▸ kindO_el (P := fun o kd => VRel θ ρ o x → okKind kd n = true → Tri cx A (getMethod x (meName n) pl) s fun r s' => r = (methF kd n, [x]) ∧ s' = s) hk (fun _ ⟨_, e⟩ hok => e ▸ strM_ok hok) (fun _ _ hg ho hok => listM_ok S ho hg hok)
    (fun _ _ _ hg hes ho hok => pageM_ok C MO S ho hg hes hok) (fun _ _ _ _ hg hes ho hok => accM_ok C MO S ho hg hes hok) ho hok
theorem roomsOf_out {o : AV} {p : AI × AI} (e : roomsOf H o = some p) : ∃ k d es, o = .ref k ∧ H.get k = some (.page d) ∧ dctOf H d = some es ∧ ob (room0 H es) (fun a => ob (room1 es) fun b => some (a, b)) = some p := by
  cases o with
  | ref k =>
    change (match H.get k with | some (.page d) => _ | _ => _) = _ at e
    cases hg : H.get k with
    | none => rw [hg] at e; exact no_el e
    | some ao =>
      rw [hg] at e
      cases ao with
      | page d => exact ob_el e fun es hes e => ⟨k, d, es, rfl, hg, hes, e⟩
      | _ => exact no_el e
  | _ => exact no_el e
theorem leaf_meet (C : COk cx) (MO : MethOk cx.K) {o : AV} {p : AI × AI} {pl : Sem Bool} (S : St cx θ ρ H s) (ho : VRel θ ρ o x) (e : roomsOf H o = some p) : Tri cx A (getMethod x "_maxlengths" pl) s fun r s' => r = (.ref 77, [x]) ∧ s' = s := by
  obtain ⟨k, d, es, rfl, hg, hes, _⟩ := roomsOf_out e
  exact pageMeth_ok C MO S ho hg hes mem4 (notAttr _ mem4)
end
end Mine
namespace Mine
open PySem PySem.W PyProof.Rows PySem.Calls
section
variable {cx : Cx} {θ : Th} {X ρ ρ' : List Addr} {H H' : AH} {s s' s'' : Shared} {A : Around} {v : AV} {x y z : Value} {M : Model} {K : Frag} {E : Value → Shared → Prop}

theorem All2.size {α β : Type} {R : α → β → Prop} {xs : List α} {vs : Array β} (h : All2 R xs vs.toList) : xs.length = vs.size := h.length
theorem itemAcc_ok {a d : Addr} {vs : Array Value} {m : Nat} {K : Frag} {ix : AI} {i : Int} {u : Tok} {xs : List AV} {n : Nat} (X : K.In s.heap) (AO : AccOk K) (S : St cx θ ρ H s) (hl : s.heap.get? a = some { cls := .ref 178, dict := some d, data := .seq vs m }) (hv : All2 (VRel θ ρ) xs vs.toList) (ha : AIs θ ix i) (h1 : idxOf xs.length ix = some n) (h2 : nth xs n = some v) (hz : xs.length < 2 ^ 62) :
    Tri cx A (getItem (.ref a) (.int i u)) s (Res cx θ ρ s H v) := by
  obtain ⟨w, hw, hr⟩ := hv.nth h2
  have hlen : xs.length = vs.size := hv.length
  have hw' : vs[n]? = some w := Array.getElem?_toList.symm.trans hw
  rw [hlen] at h1 hz
  exact idx_el (P := fun i n => vs[n]? = some w → Tri cx A (getItem (.ref a) (.int i u)) s (Res cx θ ρ s H v)) h1 ha (fun n h hw => acc_item X AO hl (Int.natCast_nonneg n) (fit_nat h hz).2 hw (.here S hr))
    (fun m e hw => acc_item_neg X AO hl (by decide) (by rw [e]; exact minus_le) (by decide) (by rw [e, minus_one]; exact hw) (.here S hr)) hw'
theorem itemRef_ok (C : COk cx) (AO : AccOk cx.K) {k : Nat} {a : AI} {j : Int} {u : Tok} (S : St cx θ ρ H s) (ho : VRel θ ρ (.ref k) x) (hj : AIs θ a j) (e : itemRef H k a = some v) : Tri cx A (getItem x (.int j u)) s (Res cx θ ρ s H v) := by
  refine ob_el e fun ao hg e => ob_el e fun xs hxs e => cnd_el e fun hz e => ob_el e fun n hn e => ?_
  have hz : xs.length < 2 ^ 62 := Nat.lt_of_le_of_lt (ble_t hz) (by decide)
  obtain ⟨a', ha, rfl⟩ := ho
  obtain ⟨_, hob, hr⟩ := S.getO ha hg
  cases ao with
  | list _ =>
    obtain rfl := Option.some.inj hxs
    obtain ⟨vs, m, rfl, hv⟩ := hr
    exact itemList_ok S ⟨_, hob, rfl, m, rfl⟩ hv hj hn e (hv.size ▸ hz)
  | tup _ =>
    obtain rfl := Option.some.inj hxs
    obtain ⟨vs, m, rfl, hv⟩ := hr
    exact itemTup_ok S hob hv hj hn e (hv.size ▸ hz)
  | acc _ _ =>
    obtain rfl := Option.some.inj hxs
    obtain ⟨da, vs, m, hda, rfl, hv⟩ := hr
    exact itemAcc_ok (C.K.keeps S.base) AO S hob hv hj hn e hz
  | _ => exact no_el hxs
/-- what is indexed -/
theorem itemOf_el {o i : AV} {P : AV → AV → Prop} (e : itemOf H o i = some v) (h1 : ∀ x a, itemStr x a = some v → P (.str x) (.int a)) (h2 : ∀ k a, itemRef H k a = some v → P (.ref k) (.int a)) (h3 : ∀ n c, tokOf n c = some v → P (.top n) (.str [c])) : P o i := by
  cases o with
  | str x => cases i with
    | int a => exact h1 x a e
    | _ => exact no_el e
  | ref k => cases i with
    | int a => exact h2 k a e
    | _ => exact no_el e
  | top n => cases i with
    | str l => cases l with
      | nil => exact no_el e
      | cons c r => cases r with
        | nil => exact h3 n c e
        | cons _ _ => exact no_el e
    | _ => exact no_el e
  | _ => exact no_el e
theorem leaf_itm (C : COk cx) (O : θ.Ok) (D : DictOk cx) (AO : AccOk cx.K) {o i : AV} (S : St cx θ ρ H s) (ho : VRel θ ρ o x) (hi : VRel θ ρ i y) (e : itemOf H o i = some v) : Tri cx A (getItem x y) s (Res cx θ ρ s H v) :=
  itemOf_el (P := fun o i => VRel θ ρ o x → VRel θ ρ i y → Tri cx A (getItem x y) s (Res cx θ ρ s H v)) e (fun _ _ e ⟨_, h⟩ ⟨_, _, h', hj⟩ => h ▸ h' ▸ itemStr_ok S hj e) (fun _ _ e ho ⟨_, _, h', hj⟩ => h' ▸ itemRef_ok C AO S ho hj e)
    (fun _ _ e ho ⟨_, h'⟩ => (show x = _ from ho) ▸ h' ▸ tok_ok O D S e) ho hi

theorem gip_str {l : Str} {t : Tok} : Tri cx A (getitemInPython (.str l t)) s fun b s' => b = false ∧ s' = s := by
  rw [getitemInPython_of_ne (by intro h; cases h)]
  exact wpAny_bind (wpAny_specialOf (typeIs_str s l t) F.slot_str_getitem.lookup (wpAny_pure ⟨rfl, rfl⟩))
theorem gip_list {a : Addr} {vs : Array Value} {m : Nat} (h : s.heap.get? a = some { cls := .type "list", data := .seq vs m }) : Tri cx A (getitemInPython (.ref a)) s fun b s' => b = false ∧ s' = s := by
  rw [getitemInPython_of_ne (by intro h; cases h)]
  exact wpAny_bind (wpAny_specialOf (T := "list") ⟨_, h, rfl⟩ F.slot_list_getitem.lookup (wpAny_pure ⟨rfl, rfl⟩))
theorem gip_tup {a : Addr} {vs : Array Value} {m : Nat} (h : s.heap.get? a = some { cls := .type "tuple", data := .seq vs m }) : Tri cx A (getitemInPython (.ref a)) s fun b s' => b = false ∧ s' = s := by
  rw [getitemInPython_of_ne (by intro h; cases h)]
  exact wpAny_bind (wpAny_specialOf (T := "tuple") ⟨_, h, rfl⟩ F.slot_tuple_getitem.lookup (wpAny_pure ⟨rfl, rfl⟩))
theorem gip_acc (C : COk cx) (AO : AccOk cx.K) (S : St cx θ ρ H s) {a d : Addr} {vs : Array Value} {m : Nat} (h : s.heap.get? a = some { cls := .ref 178, dict := some d, data := .seq vs m }) : Tri cx A (getitemInPython (.ref a)) s fun b s' => b = false ∧ s' = s := by
  rw [getitemInPython_of_ne (by intro h; cases h)]
  exact wpAny_bind ((acc_special (C.K.keeps S.base) h AO.get).here (wpAny_pure ⟨rfl, rfl⟩))
theorem gip_dict (D : DictOk cx) (S : St cx θ ρ H s) : Tri cx A (getitemInPython (.ref 197)) s fun b s' => b = false ∧ s' = s := by
  obtain ⟨o, es, ep, ho, hex, hd, _, _⟩ := D
  rw [getitemInPython_of_ne (by intro h; cases h)]
  have hm : s.heap.MapOf (strKind cx.prog cx.w) 197 (fun k => findBy (strKind cx.prog cx.w).is es k) := ⟨o, es, ep, S.base _ _ ho, hex, hd, ‹_›, fun _ => rfl⟩
  exact wpAny_bind (wpAny_specialOf hm.typeIs slot_dict_getitem.lookup (wpAny_pure ⟨rfl, rfl⟩))

theorem gip_seq (C : COk cx) (AK : AccOk cx.K) {k : Nat} {ao : AO} {xs : List AV} (S : St cx θ ρ H s) (ho : VRel θ ρ (.ref k) x) (hg : H.get k = some ao) (e : itemsOf ao = some xs) : Tri cx A (getitemInPython x) s fun b s' => b = false ∧ s' = s := by
  obtain ⟨a', ha, rfl⟩ := ho
  obtain ⟨_, hob, hr⟩ := S.getO ha hg
  cases ao with
  | list _ => obtain ⟨vs, m, rfl, hv⟩ := hr; exact gip_list hob
  | tup _ => obtain ⟨vs, m, rfl, hv⟩ := hr; exact gip_tup hob
  | acc _ _ => obtain ⟨da, vs, m, hda, rfl, hv⟩ := hr; exact gip_acc C AK S hob
  | _ => exact no_el e
theorem leaf_gipI (C : COk cx) (D : DictOk cx) (AO : AccOk cx.K) {o i : AV} (S : St cx θ ρ H s) (ho : VRel θ ρ o x) (e : itemOf H o i = some v) : Tri cx A (getitemInPython x) s fun b s' => b = false ∧ s' = s :=
  itemOf_el (P := fun o _ => VRel θ ρ o x → Tri cx A (getitemInPython x) s fun b s' => b = false ∧ s' = s) e (fun _ _ _ ⟨_, h⟩ => h ▸ gip_str) (fun _ _ e ho => ob_el e fun _ hg e => ob_el e fun _ hxs _ => gip_seq C AO S ho hg hxs)
    (fun _ _ e ho => cnd_el e fun h _ => (show x = _ from ho) ▸ beq_t (and_t (and_t h).1).1 ▸ gip_dict D S) ho
theorem seqOf_out {ao : AO} {xs : List AV} (h : seqOf ao = some xs) : itemsOf ao = some xs := by
  cases ao with
  | list _ => exact h
  | acc _ _ => exact h
  | _ => exact no_el h
theorem leaf_gipS (C : COk cx) (AO : AccOk cx.K) {o l u : AV} (S : St cx θ ρ H s) (ho : VRel θ ρ o x) (e : sliceOf H o l u = some (v, H')) : Tri cx A (getitemInPython x) s fun b s' => b = false ∧ s' = s := by
  cases o with
  | str _ => obtain ⟨t, rfl⟩ := ho; exact gip_str
  | ref _ => exact ob_el e fun _ hg e => ob_el e fun _ hxs _ => gip_seq C AO S ho hg (seqOf_out hxs)
  | _ => exact no_el e

theorem leaf_slc (C : COk cx) (O : θ.Ok) (AO : AccOk cx.K) {o l u : AV} {a : Addr} (S : St cx θ ρ H s) (ho : VRel θ ρ o x) (hl : VRel θ ρ l y) (hu : VRel θ ρ u z) (hs : s.heap.get? a = some { cls := .type "slice", data := .fields #[y, z, .none] }) (e : sliceOf H o l u = some (v, H')) :
    Tri cx A (getItem x (.ref a)) s (Res cx θ ρ s H' v) := by
  cases o with
  | str _ => obtain ⟨t, rfl⟩ := ho; exact strslc_ok O S hl hu hs e
  | ref _ =>
    refine ob_el e fun ao hg e => ob_el e fun xs hxs e => cnd_el e fun hz e => ob_el e fun p hp e => ?_
    have hz : xs.length ≤ sizeLine := Nat.le_trans (ble_t hz) (by decide)
    obtain ⟨a', ha, rfl⟩ := ho
    obtain ⟨_, hob, hr⟩ := S.getO ha hg
    cases ao with
    | list _ =>
      obtain rfl := Option.some.inj hxs
      obtain ⟨vs, m, rfl, hv⟩ := hr
      obtain ⟨lo', hi', pl, pu, hrel, _⟩ := pick_ok hv hl hu hp
      exact wpAny_getItem_list_slice ⟨_, hob, rfl, m, rfl⟩ ⟨_, hs, rfl, rfl⟩ pl pu .none (fun h => nomatch h) (pushR_ok S e rfl ⟨_, _, rfl, hrel⟩) (hv.size ▸ hz)
    | acc _ _ =>
      obtain rfl := Option.some.inj hxs
      obtain ⟨da, vs, m, hda, rfl, hv⟩ := hr
      obtain ⟨lo', hi', pl, pu, hrel, _⟩ := pick_ok hv hl hu hp
      exact acc_slice (C.K.keeps S.base) AO hob hs pl pu (hv.size ▸ hz) (pushR_ok S e rfl ⟨_, _, rfl, hrel⟩)
    | _ => exact no_el hxs
  | _ => exact no_el e

theorem get_el {k : Nat} {β : Type} {f : Option AO → Option β} {b : β} {P : Prop} (e : f (H.get k) = some b) (h0 : f none = none) (h : ∀ o, H.get k = some o → f (some o) = some b → P) : P := by
  cases ho : H.get k with
  | none => rw [ho, h0] at e; exact no_el e
  | some o => rw [ho] at e; exact h o ho e
theorem setSlice_el {o l v : AV} {P : AV → AV → AH → Prop} (e : setSlice H o l v = some H') (h : ∀ k j d xs ys n, H.get k = some (.acc d xs) → H.get j = some (.list ys) → bnd 0 xs.length l = some n → Nat.ble xs.length 4096 = true → Nat.ble ys.length 4096 = true → P (.ref k) (.ref j) (H.set k (.acc d (xs.take n ++ ys)))) : P o v H' := by
  cases o with
  | ref k => cases v with
    | ref j =>
      refine get_el (f := fun r => match r, H.get j with | some (.acc d xs), some (.list ys) => ob (bnd 0 xs.length l) fun a => cond (Nat.ble xs.length 4096 && Nat.ble ys.length 4096) (some (H.set k (.acc d (xs.take a ++ ys)))) none | _, _ => none) e rfl fun ao hk e => ?_
      cases ao with
      | acc d xs =>
        refine get_el (f := fun r => match some (AO.acc d xs), r with | some (.acc d xs), some (.list ys) => ob (bnd 0 xs.length l) fun a => cond (Nat.ble xs.length 4096 && Nat.ble ys.length 4096) (some (H.set k (.acc d (xs.take a ++ ys)))) none | _, _ => none) e rfl fun ao hj e => ?_
        cases ao with
        | list ys => exact ob_el e fun n hn e => cnd_el e fun hz e => Option.some.inj e ▸ h k j d xs ys n hk hj hn (and_t hz).1 (and_t hz).2
        | _ => exact no_el e
      | _ => exact no_el e
    | _ => exact no_el e
  | _ => exact no_el e
theorem leaf_ssl (C : COk cx) (AO : AccOk cx.K) {o l v : AV} {a : Addr} (S : St cx θ ρ H s) (ho : VRel θ ρ o x) (hl : VRel θ ρ l y) (hv : VRel θ ρ v z) (hs : s.heap.get? a = some { cls := .type "slice", data := .fields #[y, .none, .none] }) (e : setSlice H o l v = some H') :
    Tri cx A (setItem x (.ref a) z) s fun _ => Aft cx θ [] ρ s H' fun _ => True := by
  refine setSlice_el (P := fun o v H' => VRel θ ρ o x → VRel θ ρ v z → Tri cx A (setItem x (.ref a) z) s fun _ => Aft cx θ [] ρ s H' fun _ => True) e (fun k j d xs ys n h1 h2 hn hz1 hz2 ho hv => ?_) ho hv
  obtain ⟨a1, ha1, rfl⟩ := ho
  obtain ⟨a2, ha2, rfl⟩ := hv
  obtain ⟨_, ho1, da, vs, m, hda, rfl, hr1⟩ := S.getO ha1 h1
  obtain ⟨_, ho2, us, m2, rfl, hr2⟩ := S.getO ha2 h2
  have hne : a1 ≠ a2 := fun h => nomatch (congrArg Obj.cls (Option.some.inj (ho1.symm.trans (h ▸ ho2))) : Value.ref 178 = .type "list")
  have hlo : n ≤ vs.size ∧ ((y = .none ∧ n = 0) ∨ ∃ t, y = .int (n : Int) t) := (bnd_out hn hl).elim (fun h => ⟨h.2 ▸ Nat.zero_le _, .inl h⟩) fun ⟨t, h, h'⟩ => ⟨hr1.size ▸ h', .inr ⟨t, h⟩⟩
  refine acc_setSlice (C.K.keeps S.base) AO ho1 hs hlo.2 hlo.1 ho2 hne (hr1.size ▸ Nat.le_trans (ble_t hz1) (by decide)) (hr2.size ▸ Nat.le_trans (ble_t hz2) (by decide)) fun s' ⟨m', hget⟩ hsb hg hos => ?_
  obtain ⟨S', l'⟩ := S.put (X := []) (ao := .acc d (xs.take n ++ ys)) ha1 hsb hget ⟨da, _, m', hda, rfl, (hr1.take n).append hr2⟩
  exact ⟨ρ, ⟨l'.tl, l'.keep.heap, hos, l'.keep.grow⟩, S'.same rfl hg, trivial⟩
end
end Mine
namespace Mine
open PySem PySem.W PyProof.Rows PySem.Calls
section
variable {cx : Cx} {θ : Th} {X ρ ρ' : List Addr} {H H' : AH} {s s' s'' : Shared} {A : Around} {v : AV} {x y z : Value} {M : Model} {K : Frag} {E : Value → Shared → Prop}

theorem le4 {n : Nat} (h : n ≤ 4096) : n ≤ sizeLine := Nat.le_trans h (by decide)
theorem le8 {n : Nat} (h : n ≤ 8192) : n ≤ sizeLine := Nat.le_trans h (by decide)
theorem lt63 {n : Nat} (h : n ≤ 8192) : (n : Int) < 2 ^ 63 := (fit_nat (Nat.lt_succ_of_le h) (by decide)).2
theorem nge63 {n : Nat} (h : n ≤ 8192) : ¬ (n : Int) ≥ 2 ^ 63 := Int.not_le.mpr (lt63 h)
theorem All2.push {α β : Type} {R : α → β → Prop} {xs : List α} {vs : Array β} {a : α} {b : β} (h : All2 R xs vs.toList) (r : R a b) : All2 R (xs ++ [a]) (vs.push b).toList := by rw [Array.toList_push]; exact h.append (.cons r .nil)
/-! append -/
theorem list_append {k : Nat} {xs : List AV} (S : St cx θ ρ H s) (ho : VRel θ ρ (.ref k) x) (hv : VRel θ ρ v y) (hg : H.get k = some (.list xs)) (hz : xs.length ≤ 4096) :
    Tri cx A (call (.builtin "list.append") [x, y]) s (Res cx θ ρ s (H.set k (.list (xs ++ [v]))) .none) := by
  obtain ⟨a, ha, rfl⟩ := ho
  obtain ⟨o, hob, vs, m, rfl, hr⟩ := S.getO ha hg
  refine wpAny_list_append_plain ⟨m, hob⟩ (fun h' hp hs => ?_) (le4 (hr.size ▸ hz))
  obtain ⟨m', hp⟩ := hp
  obtain ⟨S', l⟩ := S.put (X := []) (ao := .list (xs ++ [v])) ha hs hp ⟨_, m', rfl, hr.push hv⟩
  exact ⟨ρ, l, S', rfl⟩
theorem accm_append (C : COk cx) (AK : AccOk cx.K) {k d : Nat} {xs : List AV} (S : St cx θ ρ H s) (ho : VRel θ ρ (.ref k) x) (hv : VRel θ ρ v y) (hg : H.get k = some (.acc d xs)) (hz : xs.length ≤ 4096) :
    Tri cx A (call (.builtin "list.append") [x, y]) s (Res cx θ ρ s (H.set k (.acc d (xs ++ [v]))) .none) := by
  obtain ⟨a, ha, rfl⟩ := ho
  obtain ⟨o, hob, da, vs, m, hda, rfl, hr⟩ := S.getO ha hg
  refine acc_append (C.K.keeps S.base) AK hob (le4 (hr.size ▸ hz)) ?_
  obtain ⟨m', hp⟩ := seqBut (·.push y) hob
  obtain ⟨S', l⟩ := S.put (X := []) (ao := .acc d (xs ++ [v])) ha (Heap.SameBut.update ..) hp ⟨da, _, m', hda, rfl, hr.push hv⟩
  exact ⟨ρ, l, S', rfl⟩

/-! len, ord, chr -/
theorem len_text {l : List Nat} (S : St cx θ ρ H s) (hv : VRel θ ρ (.str l) x) (hz : l.length ≤ 8192) : Tri cx A (call (.builtin "len") [x]) s (Res cx θ ρ s H (.int (.lit (.ofNat l.length)))) := by
  obtain ⟨t, rfl⟩ := hv
  have hl := tx_len (θ := θ) l
  exact P.len_str (hl ▸ nge63 hz) (.same S rfl rfl rfl ⟨_, _, rfl, congrArg Int.ofNat hl⟩)
theorem len_tabs (O : θ.Ok) (S : St cx θ ρ H s) (hv : VRel θ ρ .tabs x) : Tri cx A (call (.builtin "len") [x]) s (Res cx θ ρ s H (.int (.hof 0))) := by
  obtain ⟨t, rfl⟩ := hv
  have hl : (⟨(List.replicate θ.hd 9).toArray⟩ : Str).length = θ.hd := List.length_replicate
  exact P.len_str (by rw [hl]; exact nge63 (Nat.le_trans (Nat.le_of_lt O.hd) (by decide))) (.same S rfl rfl rfl ⟨_, _, rfl, (congrArg Int.ofNat hl).trans (Int.zero_add _).symm⟩)
theorem len_lst {k : Nat} {xs : List AV} (S : St cx θ ρ H s) (hv : VRel θ ρ (.ref k) x) (hg : H.get k = some (.list xs)) (hz : xs.length ≤ 8192) : Tri cx A (call (.builtin "len") [x]) s (Res cx θ ρ s H (.int (.lit (.ofNat xs.length)))) := by
  obtain ⟨a, ha, rfl⟩ := hv
  obtain ⟨o, hob, vs, m, rfl, hr⟩ := S.getO ha hg
  exact call_len_list ⟨_, hob, rfl, m, rfl⟩ (lt63 (hr.size ▸ hz)) (.same S rfl rfl rfl ⟨_, _, rfl, congrArg Int.ofNat hr.size.symm⟩)
theorem name_tx {c : Nat} (h : okName c = true) : θ.tx [c] = ⟨#[c]⟩ := congrArg (fun c => (⟨[c].toArray⟩ : Str)) (ch_plain (Nat.lt_of_le_of_lt (ble_t (and_t h).2) (by decide)))
theorem leaf_ord {c : Nat} (S : St cx θ ρ H s) (hv : VRel θ ρ (.str [c]) x) (h : okName c = true) : Tri cx A (call (.builtin "ord") [x]) s (Res cx θ ρ s H (.int (.lit (.ofNat c)))) := by
  obtain ⟨t, rfl⟩ := hv
  rw [name_tx h]
  exact P.ord_of_char (.same S rfl rfl rfl ⟨_, _, rfl, rfl⟩)
theorem leaf_chr {c : Nat} (S : St cx θ ρ H s) (hv : VRel θ ρ (.int (.lit (.ofNat c))) x) (h : okName c = true) : Tri cx A (call (.builtin "chr") [x]) s (Res cx θ ρ s H (.str [c])) := by
  obtain ⟨i, t, rfl, hi⟩ := hv
  obtain rfl := (show i = Int.ofNat c from hi)
  have : (decide (Int.ofNat c < 0) || decide (1114111 < Int.ofNat c)) = false := Bool.or_eq_false_iff.mpr ⟨rfl, decide_eq_false (Int.not_lt.mpr (Int.ofNat_le.mpr (Nat.le_trans (ble_t (and_t h).2) (by decide))))⟩
  exact P.chr_of_int this (.same S rfl rfl rfl ⟨_, by rw [name_tx h]; rfl⟩)

/-! truth -/
theorem truth_text {l : List Nat} (S : St cx θ ρ H s) (hv : VRel θ ρ (.str l) x) (hz : l.length ≤ 8192) : Tri cx A (truthy x) s fun b => Aft cx θ [] ρ s H fun _ => b = truthL l := by
  obtain ⟨t, rfl⟩ := hv
  have hl := tx_len (θ := θ) l
  refine P.truthy_str (hl ▸ nge63 hz) (.same S rfl rfl rfl ?_)
  rw [hl]
  cases l <;> rfl
theorem truth_lst {k : Nat} {xs : List AV} (S : St cx θ ρ H s) (hv : VRel θ ρ (.ref k) x) (hg : H.get k = some (.list xs)) (hz : xs.length ≤ 8192) : Tri cx A (truthy x) s fun b => Aft cx θ [] ρ s H fun _ => b = truthL xs := by
  obtain ⟨a, ha, rfl⟩ := hv
  obtain ⟨o, hob, vs, m, rfl, hr⟩ := S.getO ha hg
  refine wpAny_truthy_list ⟨_, hob, rfl, m, rfl⟩ (lt63 (hr.size ▸ hz)) (.same S rfl rfl rfl ?_)
  have : vs.isEmpty = decide (xs.length = 0) := congrArg (fun n : Nat => decide (n = 0)) hr.size.symm
  rw [this]
  cases xs <;> rfl

/-! isspace -/
theorem space_256 : ∀ c, c < 256 → 252 ≤ c → Unicode.isSpace c = false := by decide +kernel
theorem space_126 : ∀ c, c < 126 → 33 ≤ c → Unicode.isSpace c = false := by decide +kernel
theorem noBlank_ok (O : θ.Ok) {c : Nat} (hb : noBlank c = true) : Unicode.isSpace (θ.ch c) = false := by
  rcases or_t hb with hb | hb
  · obtain ⟨h1, h2⟩ := and_t hb
    rw [ch_plain (Nat.lt_of_le_of_lt (ble_t h2) (by decide))]
    exact space_256 c (Nat.lt_succ_of_le (ble_t h2)) (ble_t h1)
  · obtain ⟨h1, h2⟩ := and_t hb
    obtain ⟨k, rfl⟩ := Nat.exists_eq_add_of_le (ble_t h1)
    rw [ch_fk]
    have h3 := (sg_facts θ.b O.b).2 k (Nat.lt_succ_of_le (Nat.le_of_add_le_add_left (ble_t h2)))
    exact space_126 _ (Nat.lt_succ_of_le h3.2) h3.1
theorem not_all {α : Type} {l : List α} {p : α → Bool} {a : α} (hm : a ∈ l) (h : p a = false) : l.all p = false := by
  cases ha : l.all p with
  | false => rfl
  | true => exact absurd (List.all_eq_true.mp ha a hm) (ne_true_of_eq_false h)
theorem leaf_space (O : θ.Ok) {l : List Nat} (S : St cx θ ρ H s) (hv : VRel θ ρ (.str l) x) (h : l.any noBlank = true) : Tri cx A (call (.builtin "str.isspace") [x]) s (Res cx θ ρ s H (.bool (.lit false))) := by
  obtain ⟨t, rfl⟩ := hv
  obtain ⟨c, hc, hb⟩ := List.any_eq_true.mp h
  refine SC.isspace (.bool S ?_)
  have : (θ.tx l).cps.all Unicode.isSpace = false := Array.all_toList.symm.trans (not_all (List.mem_map_of_mem hc) (noBlank_ok O hb))
  exact (congrArg (_ && ·) this).trans (Bool.and_false _)

/-! join -/
theorem join_tx (x : List Nat) (ys : List (List Nat)) : Str.join (θ.tx x) (ys.map θ.tx) = θ.tx (joinA x ys) := by
  induction ys with
  | nil => rfl
  | cons y r ih => cases r with
    | nil => rfl
    | cons z r =>
      show θ.tx y ++ θ.tx x ++ Str.join (θ.tx x) ((z :: r).map θ.tx) = θ.tx (y ++ x ++ joinA x (z :: r))
      rw [ih, tx_append, tx_append]
theorem join_fold (m : Nat) (ys : List (List Nat)) : ∀ (k : Nat), (ys.map θ.tx).foldl (fun a p => a + p.length + m) k = k + (ys.map fun y => y.length + m).sum := by
  induction ys with
  | nil => exact fun k => (Nat.add_zero k).symm
  | cons y r ih =>
    intro k
    rw [List.map_cons, List.foldl_cons, ih, tx_len, List.map_cons, List.sum_cons, Nat.add_assoc k, Nat.add_assoc]
theorem joinA_len (x : List Nat) (ys : List (List Nat)) : (ys.map fun y => y.length + x.length).sum ≤ (joinA x ys).length + x.length := by
  induction ys with
  | nil => exact Nat.zero_le _
  | cons y r ih => cases r with
    | nil => exact Nat.le_refl _
    | cons z r =>
      rw [List.map_cons, List.sum_cons]
      show _ ≤ (y ++ x ++ joinA x (z :: r)).length + x.length
      rw [List.length_append, List.length_append, Nat.add_assoc (y.length + x.length)]
      exact Nat.add_le_add_left ih _
theorem strs_values {ys : List (List Nat)} : ∀ {vs : List Value}, All2 (VRel θ ρ) (ys.map .str) vs → ∃ l : List (Str × Tok), vs = strValues l ∧ l.map (·.1) = ys.map θ.tx := by
  induction ys with
  | nil => intro vs h; cases h; exact ⟨[], rfl, rfl⟩
  | cons y r ih =>
    intro vs h
    cases h with
    | cons h t =>
      obtain ⟨tk, rfl⟩ := h
      obtain ⟨l, rfl, e⟩ := ih t
      exact ⟨(θ.tx y, tk) :: l, rfl, congrArg (θ.tx y :: ·) e⟩
theorem leaf_join {sep : List Nat} {k : Nat} {xs : List AV} {ys : List (List Nat)} (S : St cx θ ρ H s) (hv : VRel θ ρ (.str sep) x) (hw : VRel θ ρ (.ref k) y) (hg : H.get k = some (.list xs)) (hs : isStrs xs = some ys) (h1 : (joinA sep ys).length ≤ 4096) (h2 : sep.length ≤ 4096) :
    Tri cx A (call (.builtin "str.join") [x, y]) s (Res cx θ ρ s H (.str (joinA sep ys))) := by
  obtain ⟨t, rfl⟩ := hv
  obtain ⟨a, ha, rfl⟩ := hw
  obtain ⟨o, hob, vs, m, rfl, hr⟩ := S.getO ha hg
  rw [isStrs_out hs] at hr
  obtain ⟨l, e1, e2⟩ := strs_values hr
  have hl : s.heap.IsList a (strValues l).toArray := ⟨_, hob, rfl, m, by rw [← e1]⟩
  have hok : JoinOk (θ.tx sep) (ys.map θ.tx) = true := by
    unfold JoinOk Builtin.Str.tooLong
    rw [List.foldl_toArray' (h := rfl), join_fold, tx_len, Nat.zero_add]
    exact congrArg not (decide_eq_false (Nat.not_lt.mpr (le8 (Nat.le_trans (joinA_len sep ys) (Nat.add_le_add h1 h2)))))
  refine SC.join hl e2 hok fun t' tk => .same S rfl rfl rfl ⟨t', ?_⟩
  exact congrArg (fun x => Value.str x t') ((StrLaws.glued_eq_join ..).trans (join_tx sep ys))

/-! index -/
theorem findC_out {c : Nat} {l : List Nat} : ∀ {k n : Nat}, findC c l k = some n → ∃ j, n = k + j ∧ l[j]? = some c ∧ ∀ i, i < j → l[i]? ≠ some c := by
  induction l with
  | nil => exact fun e => no_el e
  | cons d r ih =>
    intro k n e
    change cond (Nat.beq c d) (some k) (findC c r (k + 1)) = some n at e
    cases h : Nat.beq c d with
    | true => rw [h] at e; exact ⟨0, (Option.some.inj e).symm, congrArg some (beq_t h).symm, fun i hi => absurd hi (Nat.not_lt_zero i)⟩
    | false =>
      rw [h] at e
      obtain ⟨j, rfl, h1, h2⟩ := ih e
      refine ⟨j + 1, (Nat.add_assoc k 1 j).trans (congrArg (k + ·) (Nat.add_comm 1 j)), h1, fun i hi => ?_⟩
      cases i with
      | zero => exact fun q => Nat.ne_of_beq_eq_false h (Option.some.inj q).symm
      | succ i => exact h2 i (Nat.lt_of_succ_lt_succ hi)
theorem leaf_index (O : θ.Ok) {l : List Nat} {c n : Nat} (S : St cx θ ρ H s) (hv : VRel θ ρ (.str l) x) (hw : VRel θ ρ (.str [c]) y) (h1 : okx l = true) (h2 : okc c = true) (h : findC c l 0 = some n) : Tri cx A (call (.builtin "str.index") [x, y]) s (Res cx θ ρ s H (.int (.lit (.ofNat n)))) := by
  obtain ⟨t, rfl⟩ := hv
  obtain ⟨u, rfl⟩ := hw
  obtain ⟨j, hj, h3, h4⟩ := findC_out h
  rw [Nat.zero_add] at hj
  subst hj
  have hcps : (θ.tx l).cps.toList = l.map θ.ch := rfl
  have at_iff : ∀ i, StrLaws.At (θ.tx l) (θ.tx [c]) (θ.tx l).length i ↔ l[i]? = some c := by
    intro i
    show (i + (⟨#[θ.ch c]⟩ : Str).length ≤ (θ.tx l).length ∧ Builtin.Str.subAt (θ.tx l) ⟨#[θ.ch c]⟩ i = true) ↔ _
    rw [StrLaws.subAt_one, hcps, List.getElem?_map]
    constructor
    · intro q
      obtain ⟨d, hd, e⟩ := Option.map_eq_some_iff.mp q
      have hdm := List.all_eq_true.mp h1 d (List.mem_of_getElem? hd)
      rw [hd, ch_inj O hdm h2 e]
    · intro q; rw [q]; rfl
  rcases StrLaws.occ_head (θ.tx l) (θ.tx [c]) 1 (Nat.le_refl _) with ⟨_, hn⟩ | ⟨i, r, he, hi, hl⟩
  · exact absurd ((at_iff n).mpr h3) (hn n)
  · have e1 : i = n := by
      rcases Nat.lt_trichotomy i n with q | q | q
      · exact absurd ((at_iff i).mp hi) (h4 i q)
      · exact q
      · exact absurd ((at_iff n).mpr h3) (hl n q)
    subst e1
    exact SC.index he (.same S rfl rfl rfl ⟨_, _, rfl, rfl⟩)
end
end Mine
namespace Mine
open PySem PySem.W PyProof.Rows PySem.Calls

/-! split -/
noncomputable def mkS (l : List Nat) : Str := ⟨l.toArray⟩
theorem mkS_cps (x : Str) : mkS x.cps.toList = x := rfl
theorem strSub_mkS (x : Str) (a b : Nat) : Builtin.Str.strSub x a b = mkS ((x.cps.toList.drop a).take (b - a)) := (mkS_cps _).symm.trans (congrArg mkS (StrLaws.strSub_toList ..))
theorem at_take {x y : Str} {p : Nat} (hw : 1 ≤ y.length) : StrLaws.At x y x.length p ↔ nlb y.cps.toList ((x.cps.toList.drop p).take y.cps.toList.length) = true := by
  rw [nlb_iff]
  unfold StrLaws.At
  rw [StrLaws.subAt_eq]
  constructor
  · exact fun h => (eq_of_beq h.2).symm
  · intro h
    refine ⟨?_, beq_iff_eq.mpr h.symm⟩
    have h := congrArg List.length h
    rw [List.length_take, List.length_drop] at h
    have h1 : y.length ≤ x.length - p := Nat.le_trans (Nat.le_of_eq h) (Nat.min_le_right _ _)
    exact Nat.le_trans (Nat.add_le_add_left h1 p) (Nat.le_of_eq (Nat.add_sub_cancel' (Nat.le_of_lt (Nat.lt_of_sub_pos (Nat.lt_of_lt_of_le hw h1)))))
theorem parts_eq (x y : Str) (hw : 1 ≤ y.length) : ∀ (n a p f : Nat) (cuts : List Nat), a ≤ p → p ≤ x.length → x.length - p < n → StrLaws.ChainG x y x.length a cuts f → (∀ k, f ≤ k → ¬ StrLaws.At x y x.length k) → (∀ k, a ≤ k → k < p → ¬ StrLaws.At x y x.length k) →
    (splitBy y.cps.toList n (x.cps.toList.drop p) ((x.cps.toList.drop a).take (p - a)).reverse).map mkS = StrLaws.partsFrom x y.length a cuts := by
  intro n
  induction n with
  | zero => intro a p f cuts _ _ h; exact absurd h (Nat.not_lt_zero _)
  | succ n ih =>
    intro a p f cuts hap hpl hn hc hf hb
    cases hd : x.cps.toList.drop p with
    | nil =>
      have hp : p = x.length := Nat.le_antisymm hpl (List.drop_eq_nil_iff.mp hd)
      cases cuts with
      | nil =>
        show [mkS (((x.cps.toList.drop a).take (p - a)).reverse.reverse)] = [Builtin.Str.strSub x a x.length]
        rw [List.reverse_reverse, strSub_mkS, hp]
      | cons c r => exact absurd hc.2.1 (hb c hc.1 (hp ▸ Nat.lt_of_lt_of_le (Nat.lt_add_of_pos_right hw) hc.2.1.1))
    | cons d r =>
      have hpx : p < x.length := Nat.lt_of_not_le fun h => nomatch hd.symm.trans (List.drop_eq_nil_iff.mpr h)
      have hr : r = x.cps.toList.drop (p + 1) := by
        rw [← List.drop_drop, hd]; rfl
      have left : ∀ {k}, p < k → x.length - k < n := fun h => Nat.lt_of_lt_of_le (Nat.sub_lt_sub_left hpx h) (Nat.le_of_lt_succ hn)
      show (cond (nlb y.cps.toList ((d :: r).take y.cps.toList.length)) (((x.cps.toList.drop a).take (p - a)).reverse.reverse :: splitBy y.cps.toList n ((d :: r).drop y.cps.toList.length) []) (splitBy y.cps.toList n r (d :: ((x.cps.toList.drop a).take (p - a)).reverse))).map mkS = _
      cases hq : nlb y.cps.toList ((d :: r).take y.cps.toList.length) with
      | true =>
        rw [← hd] at hq
        have hat := (at_take hw).mpr hq
        cases cuts with
        | nil => exact absurd hat (hf p ((show f = a from hc) ▸ hap))
        | cons c rs =>
          have hcp : c = p := (Nat.lt_trichotomy c p).elim (fun q => absurd hc.2.1 (hb c hc.1 q)) fun q => q.elim id fun q => absurd hat (hc.2.2.1 p hap q)
          subst hcp
          have := ih (c + y.length) (c + y.length) f rs (Nat.le_refl _) hat.1 (left (Nat.lt_add_of_pos_right hw)) hc.2.2.2 hf (fun k h1 h2 => absurd h2 (Nat.not_lt.mpr h1))
          rw [Nat.sub_self, List.take_zero, List.reverse_nil] at this
          show mkS _ :: (splitBy _ _ _ _).map mkS = Builtin.Str.strSub x a c :: StrLaws.partsFrom x y.length (c + y.length) rs
          rw [← this, List.reverse_reverse, strSub_mkS, ← hd, List.drop_drop]
          rfl
      | false =>
        rw [← hd] at hq
        have hna : ¬ StrLaws.At x y x.length p := fun z => absurd ((at_take hw).mp z) (ne_true_of_eq_false hq)
        have := ih a (p + 1) f cuts (Nat.le_succ_of_le hap) hpx (left (Nat.lt_succ_self p)) hc hf (fun k h1 h2 => (Nat.lt_or_eq_of_le (Nat.le_of_lt_succ h2)).elim (hb k h1) fun e => e ▸ hna)
        rw [← this, hr]
        have e : (x.cps.toList.drop a)[p - a]? = some d := by
          rw [List.getElem?_drop, Nat.add_sub_cancel' hap]
          exact (List.getElem?_drop (i := p) (j := 0)).symm.trans (congrArg (·[0]?) hd)
        rw [Nat.succ_sub hap, List.take_add_one, List.reverse_append, e]
        rfl
theorem split_eq (x y : Str) (hw : 1 ≤ y.length) (hk : ¬ Builtin.Str.strKind x < Builtin.Str.strKind y) : Txt.split x y = (splitBy y.cps.toList (x.length + 1) x.cps.toList []).map mkS := by
  have go : ∀ {cuts f}, StrLaws.ChainG x y x.length 0 cuts f → (∀ k, f ≤ k → ¬ StrLaws.At x y x.length k) → (splitBy y.cps.toList (x.length + 1) x.cps.toList []).map mkS = StrLaws.partsFrom x y.length 0 cuts :=
    fun h1 h2 => parts_eq x y hw (x.length + 1) 0 0 _ _ (Nat.le_refl _) (Nat.zero_le _) (Nat.lt_succ_self _) h1 h2 (fun k _ h => absurd h (Nat.not_lt_zero k))
  have whole : StrLaws.partsFrom x y.length 0 [] = [x] := congrArg (fun x => [x]) (StrLaws.sub_whole x)
  unfold Txt.split
  split
  · rename_i h
    have hl : x.length < y.length := ((or_t h).imp of_decide_eq_true of_decide_eq_true).resolve_right hk
    rw [go (cuts := []) (f := 0) rfl fun k _ z => absurd (Nat.le_trans (Nat.le_add_left _ _) z.1) (Nat.not_le.mpr hl), whole]
  · obtain ⟨f, h1, h2⟩ := StrLaws.occ_tight x y hw
    split
    · rename_i he
      rw [List.isEmpty_iff.mp he] at h1
      rw [go h1 h2, whole]
    · rw [StrLaws.partsBetween_eq, go h1 h2]

theorem nlb_map {θ : Th} (O : θ.Ok) {a b : List Nat} (ha : okx a = true) (hb : okx b = true) : nlb (a.map θ.ch) (b.map θ.ch) = nlb a b := by
  rw [Bool.eq_iff_iff, nlb_iff, nlb_iff, ← tx_inj O ha hb]
  exact ⟨fun h => congrArg (fun l : List Nat => (⟨l.toArray⟩ : Str)) h, fun h => congrArg (fun s : Str => s.cps.toList) h⟩
theorem okx_take {l : List Nat} (k : Nat) (h : okx l = true) : okx (l.take k) = true := List.all_eq_true.mpr fun c m => List.all_eq_true.mp h c (List.mem_of_mem_take m)
theorem okx_drop {l : List Nat} (k : Nat) (h : okx l = true) : okx (l.drop k) = true := List.all_eq_true.mpr fun c m => List.all_eq_true.mp h c (List.mem_of_mem_drop m)
theorem splitBy_map {θ : Th} (O : θ.Ok) {sep : List Nat} (hs : okx sep = true) : ∀ (n : Nat) (l acc : List Nat), okx l = true → splitBy (sep.map θ.ch) n (l.map θ.ch) (acc.map θ.ch) = (splitBy sep n l acc).map (·.map θ.ch) := by
  intro n
  induction n with
  | zero => intro l acc _; show [(acc.map θ.ch).reverse] = [acc.reverse.map θ.ch]; rw [List.map_reverse]
  | succ n ih =>
    intro l acc hl
    cases l with
    | nil => show [(acc.map θ.ch).reverse] = [acc.reverse.map θ.ch]; rw [List.map_reverse]
    | cons c r =>
      show cond (nlb (sep.map θ.ch) (((c :: r).map θ.ch).take (sep.map θ.ch).length)) ((acc.map θ.ch).reverse :: splitBy (sep.map θ.ch) n (((c :: r).map θ.ch).drop (sep.map θ.ch).length) (List.map θ.ch [])) (splitBy (sep.map θ.ch) n (r.map θ.ch) ((c :: acc).map θ.ch))
        = (cond (nlb sep ((c :: r).take sep.length)) (acc.reverse :: splitBy sep n ((c :: r).drop sep.length) []) (splitBy sep n r (c :: acc))).map (·.map θ.ch)
      rw [List.length_map, ← List.map_take, ← List.map_drop, nlb_map O hs (okx_take _ hl), ih _ _ (okx_drop _ hl), ih r _ (and_t hl).2]
      cases nlb sep ((c :: r).take sep.length) with
      | true => exact congrArg (· :: _) List.map_reverse.symm
      | false => rfl

theorem strKind_pos (x : Str) : 1 ≤ Builtin.Str.strKind x := by
  unfold Builtin.Str.strKind
  split
  · exact Nat.le_refl 1
  · split
    · exact Nat.le_succ 1
    · decide
theorem split_tx {θ : Th} (O : θ.Ok) {x sep : List Nat} (hx : okx x = true) (hs : sep = [32] ∨ sep = [13, 10]) : Txt.split (θ.tx x) (θ.tx sep) = (splitA x sep).map θ.tx := by
  have hso : okx sep = true := hs.elim (fun h => h ▸ rfl) fun h => h ▸ rfl
  have hsm : sep.map θ.ch = sep := map_eq_self fun c m => ch_plain ((show ∀ c ∈ sep, c < fakeAt from hs.elim (fun h => h ▸ by decide) fun h => h ▸ by decide) c m)
  have hw : 1 ≤ (θ.tx sep).length := by rw [tx_len]; exact hs.elim (fun h => h ▸ Nat.le_refl 1) fun h => h ▸ Nat.le_succ 1
  have hk1 : Builtin.Str.strKind (θ.tx sep) = 1 := by
    have e : θ.tx sep = mkS sep := congrArg mkS hsm
    rw [e]; exact hs.elim (fun h => h ▸ by decide +kernel) fun h => h ▸ by decide +kernel
  rw [split_eq _ _ hw (by rw [hk1]; exact Nat.not_lt.mpr (strKind_pos _)), tx_len]
  have := splitBy_map O hso (x.length + 1) x [] hx
  rw [List.map_nil] at this
  exact (congrArg (List.map mkS) this).trans List.map_map

section
variable {cx : Cx} {θ : Th} {X ρ ρ' : List Addr} {H H' : AH} {s s' s'' : Shared} {A : Around} {v : AV} {x y z : Value} {M : Model} {K : Frag} {E : Value → Shared → Prop}
theorem strs_rel {ys : List (List Nat)} : ∀ (l : List (Str × Tok)), l.map (·.1) = ys.map θ.tx → All2 (VRel θ ρ) (ys.map .str) (strValues l) := by
  induction ys with
  | nil => intro l e; cases l with
    | nil => exact .nil
    | cons => cases e
  | cons y r ih =>
    intro l e
    cases l with
    | nil => cases e
    | cons p l =>
      obtain ⟨a, t⟩ := p
      obtain ⟨rfl, e2⟩ := List.cons.inj e
      exact .cons ⟨t, rfl⟩ (ih l e2)
theorem splitBy_len (sep : List Nat) (n : Nat) : ∀ (l acc : List Nat), (splitBy sep n l acc).length ≤ n + 1 := by
  induction n with
  | zero => exact fun _ _ => Nat.le_refl _
  | succ n ih =>
    intro l acc
    cases l with
    | nil => exact Nat.succ_le_succ (Nat.zero_le _)
    | cons c r =>
      show (cond (nlb sep ((c :: r).take sep.length)) (acc.reverse :: splitBy sep n ((c :: r).drop sep.length) []) (splitBy sep n r (c :: acc))).length ≤ _
      cases nlb sep ((c :: r).take sep.length) with
      | true => exact Nat.succ_le_succ (ih _ _)
      | false => exact Nat.le_succ_of_le (ih _ _)
theorem leaf_split (O : θ.Ok) {l sep : List Nat} (S : St cx θ ρ H s) (hv : VRel θ ρ (.str l) x) (hw : VRel θ ρ (.str sep) y) (h1 : okx l = true) (h2 : sep = [32] ∨ sep = [13, 10]) (h3 : l.length ≤ 4096) (e : pushR H (.list ((splitA l sep).map .str)) = some (v, H')) :
    Tri cx A (call (.builtin "str.split") [x, y]) s (Res cx θ ρ s H' v) := by
  obtain ⟨t, rfl⟩ := hv
  obtain ⟨u, rfl⟩ := hw
  have hs := split_tx O h1 h2
  have hy : ((θ.tx sep).length == 0) = false := by rw [tx_len]; exact h2.elim (fun h => h ▸ rfl) fun h => h ▸ rfl
  have fin : ∀ (q : List (Str × Tok)) (tk : Nat), q.map (·.1) = Txt.split (θ.tx l) (θ.tx sep) → Res cx θ ρ s H' v (.ref s.heap.objs.size) { s with toks := tk, heap := s.heap.push { cls := .type "list", data := .seq (strValues q).toArray } } := by
    intro q tk hq
    rw [hs] at hq
    exact Aft.step (Lk.same (s' := { s with toks := tk }) rfl rfl) (pushR_ok (s := { s with toks := tk }) (S.same rfl rfl) e rfl ⟨_, _, rfl, strs_rel q hq⟩)
  cases g1 : (decide ((θ.tx l).length < (θ.tx sep).length) || decide (Builtin.Str.strKind (θ.tx l) < Builtin.Str.strKind (θ.tx sep)))
  · cases hf : (Builtin.Str.occurrences (θ.tx l) (θ.tx sep) 0 (θ.tx l).length ((θ.tx l).length + 1)).isEmpty
    · have e0 : Txt.split (θ.tx l) (θ.tx sep) = Builtin.Str.partsBetween (θ.tx l) (Builtin.Str.occurrences (θ.tx l) (θ.tx sep) 0 (θ.tx l).length ((θ.tx l).length + 1)) (θ.tx sep).length := (if_neg (ne_true_of_eq_false g1)).trans (if_neg (ne_true_of_eq_false hf))
      have hlen : (Builtin.Str.partsBetween (θ.tx l) (Builtin.Str.occurrences (θ.tx l) (θ.tx sep) 0 (θ.tx l).length ((θ.tx l).length + 1)) (θ.tx sep).length).length ≤ sizeLine := by
        rw [← e0, hs, List.length_map]
        exact le8 (Nat.le_trans (splitBy_len sep (l.length + 1) l []) (Nat.le_trans (Nat.add_le_add_right h3 2) (by decide)))
      refine call_meets F.slot_str_split (typeIs_str _ _ _) F.entry_str_split (F.args_str_split_2 _ _) (meets_str_split_sep _ _ t u g1 hy hf (by rw [tx_len]; exact le4 h3) hlen) ?_
      rw [strsFrom_eq]
      exact fin (numbered s.toks _) _ ((numbered_texts _ _).trans e0.symm)
    · exact call_meets F.slot_str_split (typeIs_str _ _ _) F.entry_str_split (F.args_str_split_2 _ _) (meets_str_split_not_found _ _ t u g1 hy hf)
        (fin [(θ.tx l, t)] s.toks ((if_neg (ne_true_of_eq_false g1)).trans (if_pos hf)).symm)
  · exact call_meets F.slot_str_split (typeIs_str _ _ _) F.entry_str_split (F.args_str_split_2 _ _) (meets_str_split_cannot_occur _ _ t u g1)
      (fin [(θ.tx l, t)] s.toks (if_pos g1).symm)
end
end Mine
namespace Mine
open PySem PySem.W PyProof.Rows PySem.Calls

/-! super() over a built-in method -/
theorem type_list_len : typeOf (.builtin "list.__len__") = pure (.type "wrapper_descriptor") := by kernel_rfl
theorem type_list_init : typeOf (.builtin "list.__init__") = pure (.type "wrapper_descriptor") := by kernel_rfl
theorem type_list_pop : typeOf (.builtin "list.pop") = pure (.type "method_descriptor") := by kernel_rfl
theorem slot_wrapper_get : Slot "wrapper_descriptor" "__get__" "wrapper_descriptor.__get__" := .of (owner := "wrapper_descriptor") (n := "__get__") (by rw [typeLookup_type, builtinLookup_eq_fast]; kernel_rfl) (by decide +kernel) (by decide +kernel) (by decide +kernel)
  (by first | exact .inl (by decide +kernel) | exact .inr (by decide +kernel)) (by rw [isSubtype_type]; kernel_rfl)
theorem entry_wrapper_get : entryFor table "wrapper_descriptor.__get__" = some Builtin.«wrapper_descriptor.__get__» := entryFor_of_tree (by kernel_rfl)
theorem args_wrapper_get (a b c : Value) : argsOk "wrapper_descriptor.__get__" ⟨[a, b, c], []⟩ := by unfold argsOk; kernel_rfl
theorem slot_method_get : Slot "method_descriptor" "__get__" "method_descriptor.__get__" := .of (owner := "method_descriptor") (n := "__get__") (by rw [typeLookup_type, builtinLookup_eq_fast]; kernel_rfl) (by decide +kernel) (by decide +kernel) (by decide +kernel)
  (by first | exact .inl (by decide +kernel) | exact .inr (by decide +kernel)) (by rw [isSubtype_type]; kernel_rfl)
theorem entry_method_get : entryFor table "method_descriptor.__get__" = some Builtin.«method_descriptor.__get__» := entryFor_of_tree (by kernel_rfl)
theorem args_method_get (a b c : Value) : argsOk "method_descriptor.__get__" ⟨[a, b, c], []⟩ := by unfold argsOk; kernel_rfl

section
variable {prog : Program} {w : World} {A : Around} {E : Value → Shared → Prop} {s : Shared} {K : Frag} {x D C : Addr}

theorem tree_len (x C : Addr) : ∃ Y : Sem Unit, Builtin.«wrapper_descriptor.__get__» ⟨[.builtin "list.__len__", .ref x, .ref C], []⟩ = ((isInstance (.ref x) (.type "list") >>= fun b => if (!b) = true then Y else pure ()) >>= fun _ => newFields "method-wrapper" [.builtin "list.__len__", .ref x] >>= fun r => ret r) := by
  refine ⟨?_, ?_⟩
  rotate_left
  · unfold Builtin.«wrapper_descriptor.__get__»
    rfl
theorem tree_init (x C : Addr) : ∃ Y : Sem Unit, Builtin.«wrapper_descriptor.__get__» ⟨[.builtin "list.__init__", .ref x, .ref C], []⟩ = ((isInstance (.ref x) (.type "list") >>= fun b => if (!b) = true then Y else pure ()) >>= fun _ => newFields "method-wrapper" [.builtin "list.__init__", .ref x] >>= fun r => ret r) := by
  refine ⟨?_, ?_⟩
  rotate_left
  · unfold Builtin.«wrapper_descriptor.__get__»
    rfl
theorem tree_pop (x C : Addr) : ∃ Y : Sem Unit, Builtin.«method_descriptor.__get__» ⟨[.builtin "list.pop", .ref x, .ref C], []⟩ = ((isInstance (.ref x) (.type "list") >>= fun b => if (!b) = true then Y else pure ()) >>= fun _ => newFields "builtin_function_or_method" [.builtin "list.pop", .ref x] >>= fun r => ret r) := by
  refine ⟨?_, ?_⟩
  rotate_left
  · unfold Builtin.«method_descriptor.__get__»
    rfl
theorem get_run {i T : String} {G : String} {B : Builtin} {name : Str} {id : String} {Q : Value → Shared → Prop} (sl : Slot T name id) (hT : typeOf (.builtin i) = pure (.type T)) (he : entryFor table id = some B) (ha : argsOk id ⟨[.builtin i, .ref x, .ref C], []⟩)
    (htree : ∃ Y : Sem Unit, B ⟨[.builtin i, .ref x, .ref C], []⟩ = ((isInstance (.ref x) (.type "list") >>= fun b => if (!b) = true then Y else pure ()) >>= fun _ => newFields G [.builtin i, .ref x] >>= fun r => ret r))
    (hi : Looks (model prog w) s.heap (isInstance (.ref x) (.type "list")) true) (hq : Q (.ref s.heap.objs.size) { s with heap := s.heap.push { cls := .type G, data := .fields #[.builtin i, .ref x] } }) :
    codeAny (model prog w) A (.call (.builtin id) ⟨[.builtin i, .ref x, .ref C], []⟩) (wants Q E) s := by
  refine codeAny_call_builtin sl.plain he (sl.check _ _ _ _ _ _ _ _ hT ha ?_)
  obtain ⟨Y, e⟩ := htree
  rw [e]
  refine wpAny_bind (wpAny_bind (hi.here ?_))
  refine wpAny_pure ?_
  unfold newFields
  refine wpAny_bind (wpAny_newObj_type ?_ (by size_fits))
  exact wpAny_pure hq

theorem super_ga {so D : Addr} {v : Value} {T G : String} {l₀ l : List Value} {name : Str} {tk : Tok} {Q : Fin → Shared → Prop}
    (hso : s.heap.get? so = some { cls := .type "super", dict := none, data := .fields #[.ref D, .ref x, .ref C], slots := #[] }) (hno : Looks (model prog w) s.heap (opaqueClassAbove (.ref C)) none)
    (hC : Looks (model prog w) s.heap (mroOf (.ref C)) l₀) (hl : (l₀.dropWhile (· != .ref D)).drop 1 = l) (X : K.In s.heap)
    (hf : alongIn K name l = some (some v)) (hT : typeOf v = pure (.type T)) (hG : typeLookup (.type T) "__get__" = pure (some (.builtin G))) (hxC : x ≠ C) (hn : (name == ("__class__" : Str)) = false)
    (hq : ∀ {A : Around} , codeAny (model prog w) A (.call (.builtin G) ⟨[v, .ref x, .ref C], []⟩) (wants (fun r s' => Q (.done (.ret r)) s') E) s) :
    wpAny (model prog w) A (Builtin.«super.__getattribute__» ⟨[.ref so, .str name tk], []⟩) Q E s := by
  have hne : (Value.ref x == Value.ref C) = false := by simp [hxC]
  have hdt : ({ cls := .type "super", dict := none, data := .fields #[.ref D, .ref x, .ref C], slots := #[] } : Obj).data = .fields #[.ref D, .ref x, .ref C] := rfl
  have f0 : (#[.ref D, .ref x, .ref C] : Array Value)[0]? = some (.ref D) := rfl
  have f1 : (#[.ref D, .ref x, .ref C] : Array Value)[1]? = some (.ref x) := rfl
  have f2 : (#[.ref D, .ref x, .ref C] : Array Value)[2]? = some (.ref C) := rfl
  obtain ⟨h, g, d, t, os⟩ := s
  unfold Builtin.«super.__getattribute__»
  repeat (first
    | (with_reducible refine wpAny_field hso hdt f0 ?_) | (with_reducible refine wpAny_field hso hdt f1 ?_) | (with_reducible refine wpAny_field hso hdt f2 ?_)
    | (with_reducible refine ks_wpAny_notOpaque hno ?_)
    | (with_reducible refine Looks.at hC ?_; rw [hl])
    | (refine ks_forIn_along X (fun _ _ => rfl) rfl ?_ hf)
    | (with_reducible refine wpAny_of_eq hT ?_)
    | (with_reducible refine wpAny_of_eq hG ?_)
    | (simp only [hn, hne, Bool.or_false, Bool.false_eq_true, if_false])
    | wp_step
    | dsimp only)
  all_goals
    refine codeAny_mono hq fun r s' hr => ?_
    cases r with
    | error e => exact hr
    | ok fl =>
      cases fl with
      | ret u => exact wpAny_bind (wpAny_pure (wpAny_pure (wpAny_pure hr)))
      | _ => exact hr.elim
theorem super_getMethod {so D : Addr} {i T G : String} {id : String} {B : Builtin} {l₀ l : List Value} {name : Str} {pl : Sem Bool} {Q : Value × List Value → Shared → Prop}
    (hso : s.heap.get? so = some { cls := .type "super", dict := none, data := .fields #[.ref D, .ref x, .ref C], slots := #[] }) (hno : Looks (model prog w) s.heap (opaqueClassAbove (.ref C)) none)
    (hC : Looks (model prog w) s.heap (mroOf (.ref C)) l₀) (hl : (l₀.dropWhile (· != .ref D)).drop 1 = l) (X : K.In s.heap)
    (hf : alongIn K name l = some (some (.builtin i))) (hxC : x ≠ C) (hn : (name == ("__class__" : Str)) = false)
    (sl : Slot T "__get__" id) (hT : typeOf (.builtin i) = pure (.type T)) (he : entryFor table id = some B) (ha : argsOk id ⟨[.builtin i, .ref x, .ref C], []⟩)
    (htree : ∃ Y : Sem Unit, B ⟨[.builtin i, .ref x, .ref C], []⟩ = ((isInstance (.ref x) (.type "list") >>= fun b => if (!b) = true then Y else pure ()) >>= fun _ => newFields G [.builtin i, .ref x] >>= fun r => ret r))
    (hi : Looks (model prog w) s.heap (isInstance (.ref x) (.type "list")) true)
    (hq : Q (.ref s.heap.objs.size, []) { s with heap := s.heap.push { cls := .type G, data := .fields #[.builtin i, .ref x] }, toks := s.toks + 1 }) :
    wpAny (model prog w) A (getMethod (.ref so) name pl) Q E s := by
  have hlk := F.ks_slot_super_ga.lookup
  have hcan := F.ks_canon_super_ga
  obtain ⟨h, g, d, t, os⟩ := s
  have hT' : ∀ t', (⟨h, g, d, t', os⟩ : Shared).TypeIs (.ref so) "super" := fun _ => ⟨_, hso, rfl⟩
  unfold getMethod
  refine wpAny_bind (wpAny_specialOf (hT' _) hlk ?_)
  show wpAny _ _ (if (Manifest.canonical "super.__getattribute__" != "object.__getattribute__") = true then _ else _) _ _ _
  rw [if_pos hcan]
  unfold getAttr getAttrBy
  refine wpAny_bind (wpAny_bind (wpAny_mkText (wpAny_holding (wpAny_bind (wpAny_typeOf (hT' _) (wpAny_bind (wpAny_of_eq hlk ?_)))))))
  show wpAny _ _ (getAttrByItsOwn (.ref so) (.str name t) (.type "super") (.builtin "super.__getattribute__") true false) _ _ _
  unfold getAttrByItsOwn hookBefore callGetattribute boundAndCalled
  refine wpAny_bind (wpAny_of_eq (show (if onTheHeap (.type "super") then typeLookup (.type "super") "__getattr__" else pure none) = pure none from rfl) ?_)
  refine wpAny_bind (wpAny_attempt (wpAny_holding ?_))
  show wpAny _ _ (bindSpecial (.builtin "super.__getattribute__") (.ref so) >>= _) _ _ _
  refine wpAny_bind (wpAny_of_eq (F.ks_slot_super_ga.bind _) ?_)
  refine wpAny_mono (Q := fun v s' => v = .ref h.objs.size ∧ s' = ⟨h.push { cls := .type G, data := .fields #[.builtin i, .ref x] }, g, d, t + 1, os⟩) (E := fun _ _ => False)
    (wpAny_call_entry F.ks_slot_super_ga (hT' _) F.ks_entry_super_ga (super_ga (s := ⟨h, g, d, t + 1, os⟩) hso hno hC hl X hf hT sl.lookup hxC hn (get_run (s := ⟨h, g, d, t + 1, os⟩) sl hT he ha htree hi ⟨_, rfl, rfl, rfl⟩)) (F.ks_gaArgs_super _ _)) (fun v s' hv => ?_) fun _ _ z => z.elim
  obtain ⟨rfl, rfl⟩ := hv
  exact wpAny_pure (wpAny_pure hq)
end
end Mine
namespace Mine
open PySem PySem.W PyProof.Rows PySem.Calls

section
variable {prog : Program} {w : World} {A : Around} {E : Value → Shared → Prop} {s : Shared} {K : Frag} {x C : Addr} {M : Model}

/-- a bound built-in called -/
theorem bound_call {b : Addr} {i T : String} {B : Builtin} {v : Value} {args : List Value} {Q : Value → Shared → Prop} (hb : s.heap.get? b = some { cls := .type T, data := .fields #[.builtin i, v] }) (hT : T = "method-wrapper" ∨ T = "builtin_function_or_method")
    (hp : plainId i = true) (he : entryFor table i = some B) (hc : ∀ {A : Around} {Q' : Unit → Shared → Prop}, Q' () s → wpAny (model prog w) A (checkBoundCall i ⟨v :: args, []⟩) Q' (fun _ _ => False) s)
    (h : ∀ {A : Around}, wpAny (model prog w) A (B ⟨v :: args, []⟩) (fun fin s' => ∃ r, fin = .done (.ret r) ∧ Q r s') (fun _ _ => False) s) : wpAny (model prog w) A (call (.ref b) args []) Q E s := by
  have h1 : (Value.type T == Value.type "method" || Value.type T == Value.type "builtin_function_or_method" || Value.type T == Value.type "method-wrapper") = true := by rcases hT with rfl | rfl <;> decide +kernel
  have h2 : (Value.type T != Value.type "method") = true := by rcases hT with rfl | rfl <;> decide +kernel
  refine wpAny_call (codeAny_of_tree ?_)
  show wpAny _ A.in1 (callAny (.ref b) ⟨args, []⟩) _ _ _
  unfold callAny
  refine wpAny_bind (wpAny_load hb ?_)
  dsimp only
  rw [if_pos h1]
  show wpAny _ _ (if (Value.type T != Value.type "method") = true then _ else _) _ _ _
  rw [if_pos h2]
  refine wpAny_bind (wpAny_mono (hc (Q' := fun _ s' => s' = s) rfl) (fun _ s' hs => ?_) fun _ _ z => z.elim)
  subst hs
  refine wpAny_pure ⟨plainId_quiet hp _, codeAny_builtin he ?_⟩
  rw [Around.under_plainId hp _]
  refine wpAny_mono h (fun fin s' h' => ?_) fun _ _ z => z.elim
  obtain ⟨r, rfl, hq⟩ := h'
  exact hq
theorem bound_slot {i : String} {v : Value} {args : List Value} {Q : Unit → Shared → Prop} (hk : builtinKind i = some .slot) (ha : argsOk i ⟨v :: args, []⟩) (q : Q () s) : wpAny M A (checkBoundCall i ⟨v :: args, []⟩) Q E s := by
  unfold checkBoundCall
  unfold argsOk at ha
  cases hsig : Manifest.signature? i with
  | none => exact wpAny_pure q
  | some sig =>
    rw [hsig] at ha
    have h2 : Bind.checkArgs i sig ⟨v :: args, []⟩ = pure () := ha
    rw [hk]
    dsimp only
    rw [if_pos (by decide)]
    rw [h2]
    exact wpAny_pure q

theorem kind_len : builtinKind "list.__len__" = some .slot := by decide +kernel
theorem kind_init : builtinKind "list.__init__" = some .slot := by decide +kernel
theorem kind_pop : builtinKind "list.pop" = some .method := by decide +kernel
theorem args_len (a : Value) : argsOk "list.__len__" ⟨[a], []⟩ := by unfold argsOk; kernel_rfl
theorem args_init (a : Value) : argsOk "list.__init__" ⟨[a], []⟩ := by unfold argsOk; kernel_rfl
theorem entry_len : entryFor table "list.__len__" = some Builtin.«list.__len__» := entryFor_of_tree (by kernel_rfl)
theorem entry_init : entryFor table "list.__init__" = some Builtin.«list.__init__» := entryFor_of_tree (by kernel_rfl)
theorem entry_pop : entryFor table "list.pop" = some Builtin.«list.pop» := entryFor_of_tree (by kernel_rfl)
theorem plain_len : plainId "list.__len__" = true := by decide +kernel
theorem plain_init : plainId "list.__init__" = true := by decide +kernel
theorem plain_pop : plainId "list.pop" = true := by decide +kernel

theorem run_len {a d : Addr} {vs : Array Value} {m : Nat} {Q : Fin → Shared → Prop} (hl : s.heap.get? a = some { cls := .ref 178, dict := some d, data := .seq vs m })
    (h : Q (.done (.ret (.int vs.size s.toks))) { s with toks := s.toks + 1 }) : wpAny (model prog w) A (Builtin.«list.__len__» ⟨[.ref a], []⟩) Q E s := by
  obtain ⟨hp, g, dd, tk, os⟩ := s
  wp_walk
  exact h
theorem run_init {a d : Addr} {m : Nat} {Q : Fin → Shared → Prop} (hl : s.heap.get? a = some { cls := .ref 178, dict := some d, data := .seq #[] m })
    (h : Q (.done (.ret .none)) { s with heap := s.heap.update a (Obj.mapSeq fun _ => #[]) }) : wpAny (model prog w) A (Builtin.«list.__init__» ⟨[.ref a], []⟩) Q E s := by
  obtain ⟨hp, g, dd, tk, os⟩ := s
  wp_walk using (wpAny_updateSeq hl rfl (hz := by decide) (_hz' := by decide)), wpAny_loadPart' hl
  all_goals exact h
theorem run_pop {a d : Addr} {vs : Array Value} {m : Nat} {v : Value} {Q : Fin → Shared → Prop} (hl : s.heap.get? a = some { cls := .ref 178, dict := some d, data := .seq vs m }) (hs1 : vs.size ≤ sizeLine)
    (hv : vs[vs.size - 1]? = some v) (h : Q (.done (.ret v)) { s with heap := s.heap.update a (Obj.mapSeq (·.eraseIdxIfInBounds (vs.size - 1))) }) : wpAny (model prog w) A (Builtin.«list.pop» ⟨[.ref a], []⟩) Q E s := by
  obtain ⟨hp, g, dd, tk, os⟩ := s
  have hpos : 0 < vs.size := by
    rcases Nat.eq_zero_or_pos vs.size with h0 | h0
    · simp [h0] at hv
    · exact h0
  have hne : ¬ vs.isEmpty = true := by
    intro he; have : vs.size = 0 := by simpa using he
    omega
  have hk : seqIndex? (-1) vs.size = some (vs.size - 1) := by
    rw [seqIndex_neg (by omega) (by omega)]; congr 1; omega
  wp_walk using wpAny_loadPart' hl
  simp only [hk, hv, Option.bind_some, Option.map_some]
  have hz' : (vs.eraseIdxIfInBounds (vs.size - 1)).size ≤ sizeLine + 1 := by
    unfold Array.eraseIdxIfInBounds
    split
    · rw [Array.size_eraseIdx]; omega
    · omega
  wp_walk using (wpAny_updateSeq hl rfl (hz := hs1) (_hz' := hz')), wpAny_loadPart' hl
  all_goals exact h

/-- what is asked of the own list's class for super().pop() -/
structure PopOk (K : Frag) : Prop where
  nomod : subIn K (.ref 178) (.type "module") = some false
  meta_ : typeIn K (.ref 178) = some (.type "type")
  cls : ∃ cd, clsIn K 178 = some cd ∧ cd.qualname.toString = "_Accumulator"

theorem pop_sig : ∃ sig, Manifest.signature? "list.pop" = some sig ∧ ∀ a, Bind.checkArgs "list.pop" { sig with full := s!"{"_Accumulator"}.{Bind.lastOf "list.pop"}" } ⟨[a], []⟩ = pure () := ⟨(Manifest.signature? "list.pop").get (by decide +kernel), (Option.some_get _).symm, fun a => by kernel_rfl⟩
theorem bound_pop {a d : Addr} {vs : Array Value} {m : Nat} {Q : Unit → Shared → Prop} (X : K.In s.heap) (P : PopOk K) (ho : s.heap.get? a = some { cls := .ref 178, dict := some d, data := .seq vs m }) (q : Q () s) : wpAny M A (checkBoundCall "list.pop" ⟨[.ref a], []⟩) Q E s := by
  obtain ⟨sig, h1, h2⟩ := pop_sig
  obtain ⟨cd, h3, h4⟩ := P.cls
  unfold checkBoundCall
  rw [h1, kind_pop]
  dsimp only
  rw [if_neg (by decide)]
  have l1 : Looks M s.heap (isInstance (.ref a) (.type "module")) false := (acc_type ho).andThen (looks_subIn X P.nomod)
  refine wpAny_bind (l1.here ?_)
  rw [show Manifest.varargsMethods.contains "list.pop" = false by decide +kernel]
  simp only [Bool.or_self, Bool.false_eq_true, if_false]
  refine wpAny_bind (ks_wpAny_isType_inst ho (fun _ e => nomatch e) ?_)
  simp only [Bool.false_eq_true, if_false]
  refine wpAny_bind ((acc_type ho).here ?_)
  refine wpAny_bind ((looks_clsIn X h3).here ?_)
  refine wpAny_bind ((looks_typeIn X P.meta_).here ?_)
  rw [if_pos (by decide +kernel), h4, h2]
  exact wpAny_pure q
end
end Mine
namespace Mine
open PySem PySem.W PyProof.Rows PySem.Calls

/-- a def whose body is walked by hand -/
structure HandOk (cx : Cx) (a : Nat) (fd : FuncData) (b : List Stmt) (ps : List Str) : Prop where
  obj : ∃ o, cx.h₀.get? a = some o ∧ o.data = .func fd
  body : fd.body = .stmts b
  glob : fd.globals = mainGlobals
  blt : fd.builtins = builtinsNs
  code : codeIn cx.K fd.code fd.qualname = true
  bind : ∀ (s : Shared) (vals : List Value), (∀ b o, cx.h₀.get? b = some o → s.heap.get? b = some o) → vals.length = ps.length → BindsTo s fd ⟨vals, []⟩ (ps.zip vals)
  co : fd.scope.isCoroutine = false
  kind : fd.scope.kind = .function
  cell : ∀ x ∈ fd.scope.names, x.2 ≠ .cell
  loc : ∀ p ∈ ps, fd.scope.names.lookup p = some .local

/-- what super() asks -/
structure SuperOk (cx : Cx) (fd : FuncData) (me : Str) : Prop where
  sup : fd.scope.names.lookup ("super" : Str) = some .globalImplicit
  cls : fd.scope.names.lookup ("__class__" : Str) = some .free
  clo : fd.closure.lookup ("__class__" : Str) = some 102
  arg : ∃ ar, (fd.params.posonlyargs ++ fd.params.args).head? = some ar ∧ ar.arg = me
  slf : fd.scope.names.lookup me = some .local
  code : ∃ cda o vs file tf, fd.code = .ref cda ∧ cx.K.lookup cda = some o ∧ o.data = .fields vs ∧ vs[2]? = some (.str file tf) ∧ ((cx.prog.main.file : Str) == file) = true
  cell : ∃ o, cx.K.lookup 102 = some o ∧ o.data = .cell (some (.ref 178))
  c178 : ∃ o cd, cx.K.lookup 178 = some o ∧ o.data = .cls cd ∧ clsIn cx.K 178 = some cd ∧ (cd.mro.dropWhile (· != .ref 178)).drop 1 = [.type "list", .type "object"]
  sub : mroIn cx.K 178 (.ref 178) = some true
  mg : cx.mg "super" = none
  mb : cx.mb "super" = some (.type "super")
  top : (cx.prog.main.scope.names.lookup ("super" : Str)).isSome = false
  statics : nsIn cx.K cStatics "thirdparty.any" = some none
  acc : AccOk cx.K

section
variable {cx : Cx} {θ : Th} {X ρ ρ' : List Addr} {H H' : AH} {s s' s'' : Shared} {A : Around} {v : AV} {x y z : Value} {M : Model} {K : Frag} {E : Value → Shared → Prop} {fd : FuncData} {b : List Stmt} {ps : List Str} {me : Str}

theorem zip_lookup {ps : List Str} {vals : List Value} {p : Str} {v : Value} : (ps.zip vals).reverse.lookup p = some v → p ∈ ps := by
  intro h
  have : (p, v) ∈ (ps.zip vals).reverse := by
    generalize (ps.zip vals).reverse = l at h
    induction l with
    | nil => cases h
    | cons q r ih =>
      obtain ⟨a, u⟩ := q
      by_cases hx : p = a
      · subst hx; rw [List.lookup_cons] at h; simp at h; subst h; exact .head _
      · rw [lookup_of_ne hx] at h; exact .tail _ (ih h)
  exact (List.of_mem_zip (List.mem_reverse.mp this)).1

theorem enter {a : Nat} {vals : List Value} {Q : Value → Shared → Prop} (C : COk cx) (O : HandOk cx a fd b ps) (hg : fd.scope.isGenerator = false) (hA : AOk A 1) (S : St cx θ ρ H s) (hl : vals.length = ps.length)
    (h : ∀ h₀ tk, h₀.Ns s.heap.objs.size (fun y => (ps.zip vals).reverse.lookup y) → (∀ b o, s.heap.get? b = some o → h₀.get? b = some o) → s.heap.objs.size ≤ h₀.objs.size → St cx θ ρ H { s with heap := h₀, toks := tk } →
      _root_.PySem.wpAt (model cx.prog cx.w) (A.deeper (callEnv fd s.heap.objs.size a)) (.func b (callEnv fd s.heap.objs.size a)) (execs b (callEnv fd s.heap.objs.size a)) (fun fl s' => Q (match fl with | .ret v => v | _ => .none) s') (fun _ _ => False) { s with heap := h₀, toks := tk }) :
    Tri cx A (call (.ref a) vals []) s Q := by
  obtain ⟨o, ho, hd⟩ := O.obj
  obtain ⟨loose, T⟩ := C.top
  refine wpAny_call (ks_codeAny_call_defAt hA.room (S.base _ _ ho) hd (T.nolimit.keeps S.base) (codeRec_of (C.K.keeps S.base) O.code) O.body (O.bind s vals S.base hl) O.cell (fun x hx => ?_) (fun h₀ hns hkeep => ?_) O.co hg O.kind)
  · exact O.loc _ (List.of_mem_zip hx).1
  · have hsz : s.heap.objs.size ≤ h₀.objs.size := Nat.le_of_lt hns.lt
    exact ks_wpAt_mono (h h₀ _ hns hkeep hsz (S.frame hkeep S.bare hsz)) (fun _ _ q => q) fun _ _ z => z.elim

theorem super_node {a : Nat} {L xa d : Addr} {m : Str → Option Value} {vs : Array Value} {n : Nat} {p0 p1 : Pos} {attr : Str} {whole : Sem Value} {Q : Value → Shared → Prop} (C : COk cx) (O : HandOk cx a fd b ps) (P : SuperOk cx fd me) (hK : ∀ b o, cx.h₀.get? b = some o → s.heap.get? b = some o)
    (hns : s.heap.Ns L m) (hm : m me = some (.ref xa)) (hx : s.heap.get? xa = some { cls := .ref 178, dict := some d, data := .seq vs n }) (hat : (attr == ("__class__" : Str)) = false)
    (h : ∀ h', h'.get? s.heap.objs.size = some (ks_superObj 178 xa 178) → (∀ b o, s.heap.get? b = some o → h'.get? b = some o) → Q (.ref s.heap.objs.size) { s with heap := h' }) :
    _root_.PySem.wpAt (model cx.prog cx.w) A (.func b (callEnv fd L a)) (attributeBase (.Call (.Name "super" p0) [] [] p1) attr (callEnv fd L a) whole) Q E s := by
  have X : cx.K.In s.heap := C.K.keeps hK
  obtain ⟨o, ho, hd⟩ := O.obj
  obtain ⟨loose, T⟩ := C.top
  obtain ⟨cda, oc, cvs, file, tf, hc1, hc2, hc3, hc4, hc5⟩ := P.code
  obtain ⟨ocl, hcl1, hcl2⟩ := P.cell
  obtain ⟨oD, cd, hD1, hD2, hD3, _⟩ := P.c178
  obtain ⟨ar, har, rfl⟩ := P.arg
  obtain ⟨hh, g, dd, t, os⟩ := s
  refine ks_wpAt_super_base (env := callEnv fd L a) P.sup P.cls hat rfl (hK _ _ ho) hd har hc1 (X _ _ hc2) hc3 hc4 hc5 P.top ?_
  refine ks_loadName_global O.kind P.sup (loadGlobal_builtin (env := callEnv fd L a) (by show (_ : Heap).Ns fd.globals _; rw [O.glob]; exact T.g.keeps hK) P.mg (by show (_ : Heap).Ns fd.builtins _; rw [O.blt]; exact T.b.keeps hK) P.mb ⟨rfl, ?_⟩)
  refine wpAny_loadName_free O.kind P.cls P.clo ⟨_, X _ _ hcl1, hcl2⟩ ?_
  refine wpAny_loadName_local O.kind P.slf hns hm ?_
  refine ks_wpAny_isType_cls (X _ _ hD1) hD2 ⟨rfl, ?_⟩
  exact ks_wpAny_call_super (X _ _ hD1) hD2 hx rfl (fun c e => nomatch e) (looks_mroIn X P.sub) (fun h' e k => h h' e k)
end
end Mine
namespace Mine
open PySem PySem.W PyProof.Rows PySem.Calls

section
variable {cx : Cx} {θ : Th} {X ρ ρ' : List Addr} {H H' : AH} {s s' s'' : Shared} {A : Around} {v : AV} {x y z : Value} {M : Model} {K : Frag} {E : Value → Shared → Prop} {fd : FuncData} {b : List Stmt} {ps : List Str} {me : Str}

theorem super_call {a : Nat} {L xa d : Addr} {m : Str → Option Value} {vs : Array Value} {n : Nat} {p0 p1 p2 p3 : Pos} {nm : Str} {i T G id : String} {B BI : Builtin} {Q : Value → Shared → Prop} (C : COk cx) (O : HandOk cx a fd b ps) (P : SuperOk cx fd me) (hK : ∀ b o, cx.h₀.get? b = some o → s.heap.get? b = some o)
    (hns : s.heap.Ns L m) (hm : m me = some (.ref xa)) (hx : s.heap.get? xa = some { cls := .ref 178, dict := some d, data := .seq vs n }) (hpos : (p2.endLine == p3.line) = true) (hat : (nm == ("__class__" : Str)) = false)
    (hf : alongIn cx.K nm [.type "list", .type "object"] = some (some (.builtin i))) (sl : Slot T "__get__" id) (hT : typeOf (.builtin i) = pure (.type T)) (he : entryFor table id = some B) (ha : argsOk id ⟨[.builtin i, .ref xa, .ref 178], []⟩)
    (htree : ∃ Y : Sem Unit, B ⟨[.builtin i, .ref xa, .ref 178], []⟩ = ((isInstance (.ref xa) (.type "list") >>= fun b => if (!b) = true then Y else pure ()) >>= fun _ => newFields G [.builtin i, .ref xa] >>= fun r => ret r))
    (hG : G = "method-wrapper" ∨ G = "builtin_function_or_method") (hp : plainId i = true) (hbe : entryFor table i = some BI)
    (hc : ∀ (s' : Shared), cx.K.In s'.heap → s'.heap.get? xa = some { cls := .ref 178, dict := some d, data := .seq vs n } → ∀ {A : Around} {Q' : Unit → Shared → Prop}, Q' () s' → wpAny (model cx.prog cx.w) A (checkBoundCall i ⟨[.ref xa], []⟩) Q' (fun _ _ => False) s')
    (hq : ∀ h' tk, (∀ b o, s.heap.get? b = some o → h'.get? b = some o) → s.heap.objs.size ≤ h'.objs.size → ∀ {A : Around}, wpAny (model cx.prog cx.w) A (BI ⟨[.ref xa], []⟩) (fun fin s' => ∃ r, fin = .done (.ret r) ∧ Q r s') (fun _ _ => False) { s with heap := h', toks := tk }) :
    _root_.PySem.wpAt (model cx.prog cx.w) A (.func b (callEnv fd L a)) (eval (.Call (.Attribute (.Call (.Name "super" p0) [] [] p1) nm p2) [] [] p3) (callEnv fd L a)) Q (fun _ _ => False) s := by
  obtain ⟨oD, cd, hD1, hD2, hD3, hD4⟩ := P.c178
  have hK1 : ∀ {h' : Heap}, (∀ b o, s.heap.get? b = some o → h'.get? b = some o) → cx.K.In h' := fun k => C.K.keeps fun b o e => k b o (hK b o e)
  rw [arm_eval_Call]
  refine _root_.PySem.wpAt_bind (ks_wpAt_mono (E := fun _ _ => False) (Q := fun ov s₁ => wpAny (model cx.prog cx.w) A (standAt p2.atName >>= fun _ => methodCall (.Call (.Name "super" p0) [] [] p1) nm p2 p3 (callEnv fd L a) ov 0 [] []) Q (fun _ _ => False) s₁) ?_ (fun _ _ q => _root_.PySem.wpAt_of_wpAny q) fun _ _ z => z.elim)
  refine super_node C O P hK hns hm hx hat fun h' hso hk => ?_
  refine wpAny_bind (wpAny_standAt ?_)
  unfold methodCall
  rw [show methodCallForm 0 [] [] = true from rfl]
  refine wpAny_bind (wpAny_holding ?_)
  unfold calleeOf
  have sz' : s.heap.objs.size ≤ h'.objs.size := Nat.le_of_lt (Heap.lt_size hso)
  have ne : xa ≠ 178 := by
    rintro rfl
    have := C.K.keeps hK _ _ hD1
    rw [hx] at this
    cases this
    cases hD2
  refine super_getMethod (s := { s with heap := h' }) hso (looks_opaque (hK1 hk) P.statics) (Looks.andThen (looks_clsIn (hK1 hk) hD3) .now) hD4 (hK1 hk) hf ne hat sl hT he ha htree (acc_inst (hK1 hk) P.acc (hk _ _ hx)) ?_
  refine wpAny_bind (wpAny_of_eq (a := p3) (by unfold methodCallPos; rw [hpos]; rfl) ?_)
  generalize ho1 : ({ cls := .type G, data := .fields #[.builtin i, .ref xa] } : Obj) = o1
  have hf1 : o1.isFreed = false := by subst ho1; rfl
  have hq1 : (h'.push o1).get? h'.objs.size = some o1 := Heap.get?_push_size _ hf1
  have hk2 : ∀ b o, s.heap.get? b = some o → (h'.push o1).get? b = some o := fun b o e => Heap.get?_push_of_some _ (hk b o e)
  refine callWith_of (P := fun g => g.get? h'.objs.size = some o1) rfl (fun g hg => ?_) ?_
  · subst ho1
    refine ⟨.machine, .inr (.inl rfl), (Looks.ld (part := none) hg).andThen ?_⟩
    rcases hG with rfl | rfl <;> exact .now
  · unfold evalArgs
    show wpAny _ A (spliced [] >>= _) _ _ _
    refine wpAny_bind (wpAny_items_nil (pos := p3) (env := callEnv fd L a) (wpAny_bind (wpAny_pure (wpAny_holding (wpAny_bind (wpAny_pure (wpAny_bind (wpAny_pure (wpAny_pure ?_)))))))))
    refine ⟨hq1, ?_⟩
    subst ho1
    exact bound_call (s := { s with heap := _, toks := _ }) hq1 hG hp hbe (fun q => hc _ (hK1 hk2) (hk2 _ _ hx) q) (hq _ _ hk2 (by rw [Heap.size_push]; omega))
end
end Mine
namespace Mine
open PySem PySem.W PyProof.Rows PySem.Calls

/-- super().nm() -/
noncomputable def superE (nm : Str) (e : Expr) : Bool := isCl e fun f as p3 => none? as && isAttribute f fun o n p2 => isCl o fun g bs _ => none? bs && (nmB "super" g && (se n nm && p2.endLine == p3.line))
theorem superE_el {nm : Str} {e : Expr} {P : Prop} (h : superE nm e = true) (g : ∀ p0 p1 p2 p3, e = .Call (.Attribute (.Call (.Name "super" p0) [] [] p1) nm p2) [] [] p3 → (p2.endLine == p3.line) = true → P) : P :=
  isCl_el h fun _ _ p3 e1 h => isAttribute_el (and_t h).2 fun _ _ p2 e2 h' => isCl_el h' fun _ _ p1 e3 h' => have ⟨h1, h2⟩ := and_t h'; have ⟨h2, h3⟩ := and_t h2; have ⟨h3, h4⟩ := and_t h3;
    nmB_el h2 fun p0 e4 => g p0 p1 p2 p3 (by rw [e1, e2, e3, e4, none?_out (and_t h).1, none?_out h1, se_iff.mp h3]) h4
/-- self.nm() -/
noncomputable def selfE (nm : Str) (e : Expr) : Bool := isCl e fun f as p3 => none? as && isAttribute f fun o n p2 => nmB "self" o && (se n nm && p2.endLine == p3.line)
theorem selfE_el {nm : Str} {e : Expr} {P : Prop} (h : selfE nm e = true) (g : ∀ p0 p2 p3, e = .Call (.Attribute (.Name "self" p0) nm p2) [] [] p3 → (p2.endLine == p3.line) = true → P) : P :=
  isCl_el h fun _ _ p3 e1 h => isAttribute_el (and_t h).2 fun _ _ p2 e2 h' => have ⟨h2, h3⟩ := and_t h'; have ⟨h3, h4⟩ := and_t h3;
    nmB_el h2 fun p0 e4 => g p0 p2 p3 (by rw [e1, e2, e4, none?_out (and_t h).1, se_iff.mp h3]) h4
noncomputable def retB (g : Expr → Bool) (l : List Stmt) : Bool := is1 l fun s => stReturn s fun e _ => isS e g
theorem retB_el {f : Expr → Bool} {l : List Stmt} {P : Prop} (h : retB f l = true) (g : ∀ e p, l = [.Return (some e) p] → f e = true → P) : P :=
  is1_el h fun _ e1 h => stReturn_el h fun _ p e2 h => isS_el h fun e e3 h => g e p (by rw [e1, e2, e3]) h
noncomputable def countB (b : List Stmt) : Bool := retB (superE "__len__") b
noncomputable def popB (b : List Stmt) : Bool := isC b fun s r => retB (superE "pop") r && stIf s fun c _ o _ => none? o && isCompare c fun l ops rs _ => selfE "part_count" l && (is1 ops (fun op => Nat.beq op.ctorIdx 0) && is1 rs fun z => isConstant z fun z _ _ => coint z fun i => ieq i 0)
theorem popB_el {b : List Stmt} {P : Prop} (h : popB b = true) (g : ∀ l k p1 p2 t p3 r, b = .If (.Compare l [.Eq] [.Constant (.int 0) k p1] p2) t [] p3 :: r → selfE "part_count" l = true → retB (superE "pop") r = true → P) : P :=
  isC_el h fun s r e1 h => have ⟨hr, h⟩ := and_t h; stIf_el h fun c t o p3 e2 h => have ⟨ho, h⟩ := and_t h; isCompare_el h fun l ops rs p2 e3 h => have ⟨hl, h⟩ := and_t h; is1_el (and_t h).1 fun op e4 h4 => is1_el (and_t h).2 fun z e5 h =>
    isConstant_el h fun z k p1 e6 h => coint_el h fun i e7 h => g l k p1 p2 t p3 r (by rw [e1, e2, e3, e4, e5, e6, e7, ieq_iff.mp h, none?_out ho, CmpOp.Eq.elim (motive := fun o => o = .Eq) op (beq_t h4) rfl]) hl hr

theorem list_len_along (K : Frag) : alongIn K "__len__" [.type "list", .type "object"] = some (some (.builtin "list.__len__")) := by kernel_rfl
theorem list_pop_along (K : Frag) : alongIn K "pop" [.type "list", .type "object"] = some (some (.builtin "list.pop")) := by kernel_rfl
theorem list_init_along (K : Frag) : alongIn K "__init__" [.type "list", .type "object"] = some (some (.builtin "list.__init__")) := by kernel_rfl

structure CountOk (cx : Cx) : Prop where
  ok : ∃ fd b, HandOk cx 175 fd b ["self"] ∧ SuperOk cx fd "self" ∧ fd.scope.isGenerator = false ∧ countB b = true
structure PopFn (cx : Cx) : Prop where
  ok : ∃ fd b, HandOk cx 138 fd b ["self"] ∧ SuperOk cx fd "self" ∧ fd.scope.isGenerator = false ∧ popB b = true
  keep : KeepF cx (.ref 175)
  pop : PopOk cx.K

section
variable {cx : Cx} {θ : Th} {X ρ ρ' : List Addr} {H H' : AH} {s s' s'' : Shared} {A : Around} {v : AV} {x y z : Value} {M : Model} {K : Frag} {E : Value → Shared → Prop} {fd : FuncData} {b : List Stmt} {ps : List Str} {me : Str}

theorem acc_count (C : COk cx) (O : CountOk cx) {k d : Nat} {xs : List AV} (hA : AOk A 1) (S : St cx θ ρ H s) (hv : VRel θ ρ (.ref k) x) (hg : H.get k = some (.acc d xs)) : Tri cx A (call (.ref 175) [x] []) s (Res cx θ ρ s H (.int (.lit (.ofNat xs.length)))) := by
  obtain ⟨fd, b, O1, O2, hgen, hb⟩ := O.ok
  refine retB_el hb fun e p eb he => superE_el he fun p0 p1 p2 p3 ee hpos => ?_
  subst ee eb
  obtain ⟨a, ha, rfl⟩ := hv
  obtain ⟨o, hob, da, vs, m, hda, rfl, hr⟩ := S.getO ha hg
  refine enter C O1 hgen hA S rfl fun h₀ tk hns hk hsz S₁ => ?_
  refine ks_wpAt_execs_cons (ks_wpAt_Return_some ?_)
  refine super_call C O1 O2 (S₁.base) hns rfl (hk _ _ hob) hpos (by decide) (list_len_along _) slot_wrapper_get type_list_len entry_wrapper_get (args_wrapper_get _ _ _) (tree_len _ _) (.inl rfl) plain_len entry_len (fun s' _ _ _ _ q => bound_slot kind_len (args_len _) q) fun h' tk' hk' hsz' A' => ?_
  refine run_len (hk' _ _ (hk _ _ hob)) ⟨_, rfl, ?_⟩
  have kk : ∀ b o, s.heap.get? b = some o → h'.get? b = some o := fun b o q => hk' b o (hk b o q)
  exact ⟨ρ, .of_all kk rfl (Nat.le_trans hsz hsz'), S.frame kk S.bare (Nat.le_trans hsz hsz'), _, _, rfl, congrArg Int.ofNat hr.size.symm⟩

theorem lastOf_at {xs : List AV} {v : AV} (e : lastOf xs = some v) : xs[xs.length - 1]? = some v ∧ 0 < xs.length := by
  induction xs with
  | nil => exact no_el e
  | cons x r ih => cases r with
    | nil => exact ⟨e, Nat.zero_lt_one⟩
    | cons y r => exact ⟨(ih e).1, Nat.succ_pos _⟩

theorem self_call {env : Env} {nm : Str} {f x : Value} {p0 p2 p3 : Pos} {Q : Value → Shared → Prop} (hpos : (p2.endLine == p3.line) = true) (hkind : env.scope.kind = .function) (hself : env.kindOf "self" = some .local) {m : Str → Option Value} (hns : s.heap.Ns env.locals m) (hm : m "self" = some x)
    (hget : ∀ pl, Tri cx A (getMethod x nm pl) s fun r s' => r = (f, [x]) ∧ s' = s) (hk : KeepF cx f) (hK : cx.K.In s.heap) (h : Tri cx A (call f [x] []) s Q) :
    Tri cx A (eval (.Call (.Attribute (.Name "self" p0) nm p2) [] [] p3) env) s Q := by
  rw [arm_eval_Call, base_of (o := .Name "self" p0) rfl]
  refine wpAny_bind (wpAny_Name (wpAny_loadName_local hkind hself hns hm (wpAny_bind (wpAny_standAt ?_))))
  unfold methodCall
  rw [show methodCallForm (List.length ([] : List Expr) + List.length ([] : List Keyword)) (backTo p3 (starEach [] env)) (backToKw p3 (keywordEach [] env)) = true from rfl]
  refine wpAny_bind (wpAny_holding (Tri.mono (hget _) fun r s₂ hr => ?_))
  obtain ⟨rfl, rfl⟩ := hr
  refine wpAny_bind (wpAny_of_eq (a := p3) (by unfold methodCallPos; rw [hpos]; rfl) ?_)
  exact callWith_at rfl hk (wpAny_items_nil (pos := p3) (env := env) ⟨hK, h⟩)

theorem ns_step (C : COk cx) {L : Addr} {m : Str → Option Value} (hns : s.heap.Ns L m) (l : Lk cx [] ρ s ρ' s') (h1 : L ∉ ρ) (h2 : cx.h₁.objs.size ≤ L) : s'.heap.Ns L m :=
  hns.at' fun o e => l.keep.heap _ o e (fun h => h1 ((List.nil_append ρ ▸ h : _ ∈ ρ))) fun h => Nat.lt_irrefl _ (Nat.lt_of_lt_of_le (C.tabs _ h) h2)
theorem All2.dropLast {α β : Type} {R : α → β → Prop} {as : List α} {bs : List β} (h : All2 R as bs) : All2 R as.dropLast bs.dropLast := by
  rw [List.dropLast_eq_take, List.dropLast_eq_take, h.length]
  exact h.take _
theorem erase_last {vs : Array Value} (h : 0 < vs.size) : (vs.eraseIdxIfInBounds (vs.size - 1)).toList = vs.toList.dropLast := by
  unfold Array.eraseIdxIfInBounds
  rw [dif_pos (Nat.sub_lt h Nat.zero_lt_one), Array.toList_eraseIdx, ← Array.length_toList, List.eraseIdx_length_sub_one]
theorem int_ne0 {n : Nat} (h : 0 < n) : ((n : Int) == 0) = false := beq_false_of_ne (Int.ne_of_gt (Int.ofNat_lt.mpr h))

theorem acc_pop (O : θ.Ok) (C : COk cx) (MO : MethOk cx.K) (CO : CountOk cx) (PO : PopFn cx) {k d : Nat} {xs : List AV} {es : List (Nat × AV)} (hA : AOk A 4) (S : St cx θ ρ H s) (hv : VRel θ ρ (.ref k) x) (hg : H.get k = some (.acc d xs)) (hes : dctOf H d = some es) (hz : xs.length ≤ 4096) (hlast : lastOf xs = some v) :
    Tri cx A (call (.ref 138) [x] []) s (Res cx θ ρ s (H.set k (.acc d xs.dropLast)) v) := by
  obtain ⟨fd, b, O1, O2, hgen, hb⟩ := PO.ok
  refine popB_el hb fun l k0 q1 q2 t q3 r eb hl hr => selfE_el hl fun u0 u2 u3 el hupos => retB_el hr fun e p er he => superE_el he fun p0 p1 p2 p3 ee hpos => ?_
  subst ee er el eb
  clear hb hl hr he
  obtain ⟨hlv, hpos0⟩ := lastOf_at hlast
  have hv' := hv
  obtain ⟨a, ha, rfl⟩ := hv
  refine enter C O1 hgen (hA.le (by decide)) S rfl fun h₀ tk hns hk hsz S₁ => ?_
  have hA' : AOk (A.deeper (callEnv fd s.heap.objs.size 138)) 3 := AOk.deeper (n := 3) hA _
  -- the test
  refine ks_wpAt_execs_cons (ks_wpAt_If (_root_.PySem.wpAt_of_wpAny ?_))
  refine wpAny_isTrue_Compare1 (self_call hupos O1.kind O2.slf hns rfl (fun pl => accPy_ok C MO S₁ hv' hg hes mem5 (notAttr _ (.tail _ (.tail _ (.tail _ mem6))))) PO.keep (C.K.keeps S₁.base) ?_)
  refine Tri.mono (acc_count C CO (hA'.le (by decide)) S₁ hv' hg) fun y s₂ ⟨ρ₂, l₂, S₂, v₂⟩ => ?_
  obtain ⟨yi, yt, rfl, hyi⟩ := v₂
  obtain rfl := (show yi = (xs.length : Int) from hyi)
  refine wpAny_Constant_int (PySem.P.eq_int ?_)
  rw [int_ne0 hpos0]
  refine wpAny_of_eq (a := false) rfl (_root_.PySem.wpAt_of_wpAny (wpAny_execs_nil ?_))
  -- the last one
  have S₃ : St cx θ ρ₂ H { s₂ with toks := s₂.toks + 1 } := S₂.same rfl rfl
  have l : Lk cx [] ρ _ ρ₂ { s₂ with toks := s₂.toks + 1 } := l₂.trans (Lk.same (s' := { s₂ with toks := s₂.toks + 1 }) rfl rfl)
  show _root_.PySem.wpAt _ _ _ _ _ _ { s₂ with toks := s₂.toks + 1 }
  generalize ({ s₂ with toks := s₂.toks + 1 } : Shared) = s₃ at S₃ l ⊢
  have ha₃ : ρ₂[k]? = some a := l.at ha
  have hns₃ := ns_step C hns l (fun q => Nat.lt_irrefl _ (S.lt _ q)) S.size
  obtain ⟨o, hob, da, vs, m, hda, rfl, hr⟩ := S₃.getO ha₃ hg
  have hlen := hr.size
  obtain ⟨w, hw, hvw⟩ := hr.at hlv
  have hw : vs[vs.size - 1]? = some w := hlen ▸ Array.getElem?_toList.symm.trans hw
  refine ks_wpAt_execs_cons (ks_wpAt_Return_some ?_)
  refine super_call C O1 O2 S₃.base hns₃ rfl hob hpos (by decide) (list_pop_along _) slot_method_get type_list_pop entry_method_get (args_method_get _ _ _) (tree_pop _ _) (.inr rfl) plain_pop entry_pop (fun s' X' ho' _ _ q => bound_pop X' PO.pop ho' q) fun h' tk' hk' hsz' A' => ?_
  refine run_pop (hk' _ _ hob) (le4 (hlen ▸ hz)) hw ⟨_, rfl, ?_⟩
  have l₄ : Lk cx [] ρ₂ s₃ ρ₂ { s₃ with heap := h', toks := tk' } := .of_all hk' rfl hsz'
  have S₄ : St cx θ ρ₂ H { s₃ with heap := h', toks := tk' } := S₃.frame hk' S₃.bare hsz'
  obtain ⟨m', hp⟩ := seqBut (·.eraseIdxIfInBounds (vs.size - 1)) (hk' _ _ hob)
  obtain ⟨S₅, l₅⟩ := S₄.put (X := []) (ao := .acc d xs.dropLast) ha₃ (Heap.SameBut.update ..) hp ⟨da, _, m', hda, rfl, by rw [erase_last (hlen ▸ hpos0)]; exact hr.dropLast⟩
  have l₀ : Lk cx [] ρ s ρ { s with heap := h₀, toks := tk } := .of_all hk rfl hsz
  exact ⟨ρ₂, l₀.trans (l.trans (l₄.trans l₅)), S₅, hvw⟩
end
end Mine
namespace Mine
open PySem PySem.W PyProof.Rows PySem.Calls Builtin Builtin.ObjectAttr Builtin.Getset_descriptor

/-- a class that is made by list.__new__ -/
noncomputable def makesLIn (K : Frag) (C : Addr) : Bool := match K.lookup C with
  | some ⟨_, _, .cls cd, sl⟩ => !cd.hasDel && (sl.toList[4]?).join == some (.builtin "list.__new__") && !cd.mro.isEmpty && cd.mro.contains (.ref C) && cd.mro.contains (.type "list") &&
      specialIn K (.ref C) "__call__" == some (some (.builtin "type.__call__")) && instIn K (.ref C) (.type "type") == some true
  | _ => false
structure LMakes (M : Model) (h : Heap) (C : Addr) : Prop where
  obj : ∃ oc od cd sl, h.get? C = some ⟨oc, od, .cls cd, sl⟩ ∧ cd.hasDel = false ∧ cd.mro.isEmpty = false
  made : Looks M h (Bind.madeBy (.ref C)) (some "list.__new__")
  base : Looks M h (Bind.staticBase (.ref C)) (.ref C)
  self : Looks M h (isSubtype (.ref C) (.ref C)) true
  top : Looks M h (isSubtype (.ref C) (.type "list")) true
  call : Looks M h (specialOf (.ref C) "__call__") (some (.builtin "type.__call__"))
  typ : Looks M h (isInstance (.ref C) (.type "type")) true
theorem lmakes_of {K : Frag} {M : Model} {h : Heap} (X : K.In h) {C : Addr} (e : makesLIn K C = true) : LMakes M h C := by
  unfold makesLIn at e
  split at e
  · rename_i oc od cd sl ho
    simp only [Bool.and_eq_true, Bool.not_eq_true', beq_iff_eq] at e
    obtain ⟨⟨⟨⟨⟨⟨e2, e3⟩, e4⟩, e5⟩, e6⟩, e7⟩, e8⟩ := e
    have hc : clsIn K C = some cd := by unfold clsIn; rw [ho]
    have hm : Looks M h (mroOf (.ref C)) cd.mro := (looks_clsIn X hc).andThen .now
    obtain ⟨c, l, hl⟩ : ∃ c l, cd.mro = c :: l := by cases q : cd.mro with | nil => rw [q] at e4; cases e4 | cons c l => exact ⟨c, l, rfl⟩
    have made : Looks M h (Bind.madeBy (.ref C)) (some "list.__new__") := by
      intro A Q E s k q
      unfold Bind.madeBy
      refine wpAny_bind (hm A _ E s k ?_)
      rw [hl, List.forIn_cons]
      refine wpAny_bind (wpAny_bind (wpAny_bind (wpAny_bind (wpAny_loadPart (k _ _ (X _ _ ho)) (wpAny_pure ?_)))))
      dsimp only
      rw [← Array.getElem?_toList, e3]
      exact wpAny_pure (wpAny_pure (wpAny_pure q))
    refine ⟨⟨oc, od, cd, sl, X _ _ ho, e2, e4⟩, made, ?_, looks_mroIn X ?_, looks_mroIn X ?_, looks_specialIn X e7, looks_instIn X e8⟩
    · intro A Q E s k q
      unfold Bind.staticBase
      refine wpAny_bind (hm A _ E s k ?_)
      rw [hl, List.forIn_cons]
      exact wpAny_bind (wpAny_bind (wpAny_bind (made A _ E s k (wpAny_pure (wpAny_pure (wpAny_pure q))))))
    · unfold mroIn; rw [hc, Option.bind_some, if_neg (by rw [e4]; decide), e5]
    · unfold mroIn; rw [hc, Option.bind_some, if_neg (by rw [e4]; decide), e6]
  · cases e

theorem kind_new : builtinKind "list.__new__" = some .builtinFn := by decide +kernel
theorem split_new : splitId "list.__new__" = some ("list", "__new__") := by decide +kernel
theorem args_new (a b : Value) : argsOk "list.__new__" ⟨[a, b], []⟩ := by unfold argsOk; kernel_rfl

noncomputable abbrev accObj (C dx : Addr) : Obj := { cls := .ref C, dict := some dx, data := .seq #[] }

section
variable {prog : Program} {w : World} {A : Around} {K : Frag} {C : Addr} {R : Result → Shared → Prop} {h : Heap} {g : Array GenState} {d : Drawn} {t : Nat} {os : OsState} {E : Value → Shared → Prop}
theorem new_check {v : Value} {Q : Unit → Shared → Prop} (Y : LMakes (model prog w) h C) (q : Q () ⟨h, g, d, t, os⟩) : wpAny (model prog w) A (checkBuiltinCall "list.__new__" ⟨[.ref C, v], []⟩) Q E ⟨h, g, d, t, os⟩ := by
  obtain ⟨⟨oc, od, cd, sl, hC, e2, e4⟩, made, base, self, top, call, typ⟩ := Y
  simp only [checkBuiltinCall, kind_new, split_new]
  have ha := args_new (.ref C) v
  repeat (first | simp only [bne_self_eq_false, Bool.false_eq_true, if_false, beq_self_eq_true, if_true] | (with_reducible refine ks_wpAny_isType_cls hC rfl ?_) | lk)
  all_goals exact q

theorem new_L {v : Value} (Y : LMakes (model prog w) h C) (hq : R (.ok (.ret (.ref (h.objs.size + 1)))) ⟨(h.push emptyDict).push (accObj C h.objs.size), g, d, t, os⟩) :
    codeAny (model prog w) A (.call (.builtin "list.__new__") ⟨[.ref C, v], []⟩) R ⟨h, g, d, t, os⟩ := by
  have Y' := Y
  obtain ⟨⟨oc, od, cd, sl, hC, e2, e4⟩, made, base, self, top, call, typ⟩ := Y
  refine codeAny_call_builtin_code (plainId_quiet PySem.F.plain_list_new _) (new_check Y' ?_)
  refine codeAny_builtin_stack PySem.F.entry_list_new rfl fun p st => ?_
  rw [Around.under_plainId PySem.F.plain_list_new _]
  have hown := owner_list_new
  simp only [hown]
  have fin : ∀ A', wpAny (model prog w) A' (do
      let .ref d ← newDict | unsupported "internal:list.__new__"
      ret (← newObj (.ref C) (.seq #[]) (some d))) (fun fin s' => match fin with | .done f => R (.ok f) s' | .again c' => c'.quiet = true ∧ codeAny (model prog w) A c' R s') (fun e s' => R (.error e) s') ⟨h, g, d, t, os⟩ := by
    intro A'
    unfold newDict
    refine wpAny_bind (wpAny_newObj_type ?_ (by size_fits))
    dsimp only
    refine wpAny_bind ?_
    show wpAny _ _ (newObjAsIs _ _ _) _ _ _
    unfold newObjAsIs classHasDel
    refine wpAny_bind (wpAny_alloc (wpAny_bind (wpAny_bind (wpAny_load (Heap.get?_push_of_some _ (Heap.get?_push_of_some _ hC)) (wpAny_pure ?_)))))
    rw [e2]
    refine wpAny_pure (wpAny_pure ?_)
    show R _ _
    rw [Heap.size_push]
    exact hq
  have hd : typeHasDict (.ref C) = true := rfl
  repeat (first | simp only [bne_self_eq_false, Bool.false_eq_true, if_false, Bool.not_true, hd] | exact fin _ | (with_reducible refine ks_wpAny_isType_cls hC rfl ?_) | lk)

theorem make_L {v : Value} {fI : Addr} (Y : LMakes (model prog w) h C) (hi : Looks (model prog w) h (typeLookup (.ref C) "__init__") (some (.ref fI)))
    (hb : ∀ self, Looks (model prog w) h (bindSpecial (.ref fI) self) (.ref fI, [self]))
    (hq : codeAny (model prog w) (A.under (.builtin "type.__call__" ⟨[.ref C, v], []⟩)) (.call (.ref fI) ⟨[.ref (h.objs.size + 1), v], []⟩) (InitBack (h.objs.size + 1) R) ⟨(h.push emptyDict).push (accObj C h.objs.size), g, d, t, os⟩) :
    codeAny (model prog w) A (.call (.ref C) ⟨[v], []⟩) R ⟨h, g, d, t, os⟩ := by
  have Y' := Y
  obtain ⟨⟨oc, od, cd, sl, hC, e2, e4⟩, made, base, self, top, call, typ⟩ := Y
  refine codeAny_of_tree ?_
  show wpAny _ _ (callAny (.ref C) _) _ _ _
  refine nd_load hC ?_
  show wpAny _ _ (callAny.viaDunder (.ref C) _) _ _ _
  unfold callAny.viaDunder
  refine wpAny_bind (call.at ?_)
  dsimp only
  rw [tc_bind]
  refine wpAny_bind (wpAny_pure (wpAny_bind (wpAny_pure ?_)))
  refine wpAny_pure (a := Fin.again (.call (.builtin "type.__call__") ⟨[.ref C, v], []⟩)) (And.intro rfl ?_)
  refine codeAny_call_builtin_at (Code.quiet_builtin _ (by decide +kernel)) entry_typeCall (check_slot tc_kind tc_split typ (tc_args _ _ _) ?_)
  unfold Builtin.«type.__call__»
  have hm : Looks (model prog w) h (mroOf (.ref C)) cd.mro := ((Looks.ld (part := none) hC).andThen .now).andThen .now
  repeat (first | simp only [e4, Bool.false_eq_true, if_false] | with_reducible refine wpAny_call ?_ | lk)
  refine new_L Y' ?_
  have k : ∀ b o, h.get? b = some o → ((h.push emptyDict).push (accObj C h.objs.size)).get? b = some o := fun b o e => Heap.get?_push_of_some _ (Heap.get?_push_of_some _ e)
  have hx : ((h.push emptyDict).push (accObj C h.objs.size)).get? (h.objs.size + 1) = some (accObj C h.objs.size) := by
    have := Heap.get?_push_size (h.push emptyDict) (o := accObj C h.objs.size) rfl
    rwa [Heap.size_push] at this
  have t1 : Looks (model prog w) ((h.push emptyDict).push (accObj C h.objs.size)) (typeOf (.ref (h.objs.size + 1))) (.ref C) := (Looks.ld hx).andThen .now
  have s1 := self.keeps k
  have i1 := hi.keeps k
  have b1 := (hb (.ref (h.objs.size + 1))).keeps k
  unfold isInstance callSpecial? specialOf
  repeat (first | with_reducible refine wpAny_call ?_ | lk)
  refine codeAny_mono hq fun r s' z => ?_
  rcases r with e | (v | _ | _ | _) <;> first | exact z | exact z.elim | skip
  obtain ⟨rfl, z⟩ := z
  exact wpAny_pure (wpAny_pure z)
end
end Mine
namespace Mine
open PySem PySem.W PyProof.Rows PySem.Calls

theorem AOk.make {A : Around} {n : Nat} {C : Addr} {rest : List Value} (h : AOk A (n + 2)) : AOk (A.under (.builtin "type.__call__" ⟨.ref C :: rest, []⟩)) n :=
  ⟨h.hd, Nat.lt_of_le_of_lt (Nat.le_of_eq (depth_up A.depth n)) (Nat.lt_of_succ_lt h.dp), Nat.lt_of_le_of_lt (Nat.le_trans (units_up A.units n (k := 1) (by decide)) (Nat.add_le_add_left (Nat.mul_le_mul_left 8 (Nat.le_succ _)) _)) h.un⟩

noncomputable def initB (b : List Stmt) : Bool := isC b fun s r => is1 r (fun z => stExpr z fun e _ => superE "__init__" e) && stAssign s fun ts w _ => nmB "initial_size" w && is1 ts fun t => attB "self" "_initial_size" t
theorem initB_el {b : List Stmt} {P : Prop} (h : initB b = true) (g : ∀ q1 q2 q3 q4 e q5, b = [.Assign [.Attribute (.Name "self" q1) "_initial_size" q2] (.Name "initial_size" q3) q4, .Expr e q5] → superE "__init__" e = true → P) : P :=
  isC_el h fun s r e1 h => have ⟨h1, h⟩ := and_t h; is1_el h1 fun z e2 h1 => stExpr_el h1 fun e q5 e3 he => stAssign_el h fun ts w q4 e4 h => nmB_el (and_t h).1 fun q3 e5 => is1_el (and_t h).2 fun t e6 h => attB_el h fun q1 q2 e7 => g q1 q2 q3 q4 e q5 (by rw [e1, e2, e3, e4, e5, e6, e7]) he

structure InitOk (cx : Cx) : Prop where
  ok : ∃ fd b, HandOk cx 115 fd b ["self", "initial_size"] ∧ SuperOk cx fd "self" ∧ fd.scope.isGenerator = false ∧ initB b = true
  made : makesLIn cx.K 178 = true
  init : findIn cx.K (.ref 178) "__init__" = some (some (.ref 115))
  fn : typeIn cx.K (.ref 115) = some (.type "function")

section
variable {cx : Cx} {θ : Th} {X ρ ρ' : List Addr} {H H' : AH} {s s' s'' : Shared} {A : Around} {v : AV} {x y z : Value} {M : Model} {K : Frag} {E : Value → Shared → Prop} {fd : FuncData} {b : List Stmt} {ps : List Str} {me : Str}

theorem St.congr (S : St cx θ ρ H s) (hn : H.n = H'.n) (h : ∀ i ao, H'.get i = some ao → H.get i = some ao) : St cx θ ρ H' s where
  len := S.len.trans hn
  nodup := S.nodup
  lt := S.lt
  old := S.old
  small := by rw [← hn]; exact S.small
  obj := fun i ao e => S.obj i ao (h i ao e)
  base := S.base
  size := S.size
  oldk := S.oldk
  bare := S.bare

theorem enter_code {a : Nat} {vals : List Value} {R : Result → Shared → Prop} (C : COk cx) (O : HandOk cx a fd b ps) (hg : fd.scope.isGenerator = false) (hA : AOk A 1) (S : St cx θ ρ H s) (hl : vals.length = ps.length)
    (h : ∀ h₀ tk, h₀.Ns s.heap.objs.size (fun y => (ps.zip vals).reverse.lookup y) → (∀ b o, s.heap.get? b = some o → h₀.get? b = some o) → s.heap.objs.size ≤ h₀.objs.size → St cx θ ρ H { s with heap := h₀, toks := tk } →
      _root_.PySem.wpAt (model cx.prog cx.w) (A.deeper (callEnv fd s.heap.objs.size a)) (.func b (callEnv fd s.heap.objs.size a)) (execs b (callEnv fd s.heap.objs.size a)) (fun fl s' => R (.ok (.ret (match fl with | .ret v => v | _ => .none))) s') (fun _ _ => False) { s with heap := h₀, toks := tk }) :
    codeAny (model cx.prog cx.w) A (.call (.ref a) ⟨vals, []⟩) R s := by
  obtain ⟨o, ho, hd⟩ := O.obj
  obtain ⟨loose, T⟩ := C.top
  refine ks_codeAny_call_defAt hA.room (S.base _ _ ho) hd (T.nolimit.keeps S.base) (codeRec_of (C.K.keeps S.base) O.code) O.body (O.bind s vals S.base hl) O.cell (fun x hx => ?_) (fun h₀ hns hkeep => ?_) O.co hg O.kind
  · exact O.loc _ (List.of_mem_zip hx).1
  · have hsz : s.heap.objs.size ≤ h₀.objs.size := Nat.le_of_lt hns.lt
    exact ks_wpAt_mono (h h₀ _ hns hkeep hsz (S.frame hkeep S.bare hsz)) (fun _ _ q => q) fun _ _ z => z.elim

theorem n40 {n k : Nat} (h : n < 1000000) (hk : k ≤ 8) : n + k < 2 ^ 40 := Nat.lt_trans (Nat.add_lt_add_of_lt_of_le h hk) (by decide)
theorem at_end {ρ : List Addr} {a : Addr} {n : Nat} (h : ρ.length = n) : (ρ ++ [a])[n]? = some a := h ▸ List.getElem?_concat_length
/-- an own list and its dict -/
theorem acc_born {h : Heap} {g : Array GenState} {d : Drawn} {t : Nat} {os : OsState} (S : St cx θ ρ H ⟨h, g, d, t, os⟩) (hn : H.n < 1000000) :
    St cx θ (ρ ++ [h.objs.size] ++ [h.objs.size + 1]) ((H.push (.dct [])).push (.acc H.n [])) ⟨(h.push emptyDict).push (accObj 178 h.objs.size), g, d, t, os⟩ ∧
    Lk cx [] ρ ⟨h, g, d, t, os⟩ (ρ ++ [h.objs.size] ++ [h.objs.size + 1]) ⟨(h.push emptyDict).push (accObj 178 h.objs.size), g, d, t, os⟩ ∧ (ρ ++ [h.objs.size] ++ [h.objs.size + 1])[H.n + 1]? = some (h.objs.size + 1) := by
  have S₁ := S.push (o := emptyDict) (ao := .dct []) (n40 hn (by decide)) rfl ⟨[], 0, rfl, .nil⟩
  have S₂ := S₁.push (o := accObj 178 h.objs.size) (ao := .acc H.n []) (n40 (k := 3) hn (by decide)) rfl ⟨h.objs.size, #[], 0, at_mono (at_end S.len), rfl, .nil⟩
  have l₂ := (Lk.push (cx := cx) (X := []) (ρ := ρ) (s := ⟨h, g, d, t, os⟩) (o := emptyDict)).trans (Lk.push (o := accObj 178 h.objs.size))
  rw [show (Shared.heap ⟨h.push emptyDict, g, d, t, os⟩).objs.size = h.objs.size + 1 from Heap.size_push ..] at S₂ l₂
  exact ⟨S₂, l₂, at_end S₁.len⟩
/-- the two ends of the way: the dict filled first, or last -/
theorem acc_get1 {u : AV} (hn : H.n < 1000000) (i : Nat) : (((H.push (.dct [])).push (.acc H.n [])).set H.n (.dct [(6, u)])).get i = if i = H.n then some (.dct [(6, u)]) else if i = H.n + 1 then some (.acc H.n []) else H.get i := by
  rw [AH.get_set (n40 (k := 1) hn (by decide)), AH.get_push (n40 (k := 2) hn (by decide)), AH.get_push (n40 (k := 1) hn (by decide))]
  by_cases h : i = H.n
  · rw [if_pos h, if_pos h]
  · rw [if_neg h, if_neg h, if_neg h]; rfl
theorem acc_get2 {u : AV} (hn : H.n < 1000000) (i : Nat) : ((H.push (.dct [(6, u)])).push (.acc H.n [])).get i = if i = H.n then some (.dct [(6, u)]) else if i = H.n + 1 then some (.acc H.n []) else H.get i := by
  rw [AH.get_push (n40 (k := 2) hn (by decide)), AH.get_push (n40 (k := 1) hn (by decide))]
  by_cases h : i = H.n
  · rw [if_pos h, if_pos h]; exact if_neg (h ▸ (Nat.succ_ne_self _).symm)
  · rw [if_neg h, if_neg h]; rfl
theorem acc_set {u : AV} (hn : H.n < 1000000) : setAttrA ((H.push (.dct [])).push (.acc H.n [])) (.ref (H.n + 1)) 6 u = some (((H.push (.dct [])).push (.acc H.n [])).set H.n (.dct [(6, u)])) := by
  have h1 : ((H.push (.dct [])).push (.acc H.n [])).get (H.n + 1) = some (.acc H.n []) := (AH.get_push (n40 (k := 2) hn (by decide)) _ _).trans (if_pos rfl)
  have h2 : ((H.push (.dct [])).push (.acc H.n [])).get H.n = some (.dct []) := by
    rw [AH.get_push (n40 (k := 2) hn (by decide)), AH.get_push (n40 (k := 1) hn (by decide)), if_pos rfl]
    exact if_neg (Nat.succ_ne_self _).symm
  have h3 : dctOf ((H.push (.dct [])).push (.acc H.n [])) H.n = some [] := by unfold dctOf; rw [h2]
  show ob (ob (((H.push (.dct [])).push (.acc H.n [])).get (H.n + 1)) dictOfO) _ = _
  rw [h1]
  show ob (dctOf ((H.push (.dct [])).push (.acc H.n [])) H.n) _ = _
  rw [h3]
  rfl
/-- the own list's __init__, run on the two new objects -/
theorem acc_init (C : COk cx) (P : ClsOk cx.K 94) (Q : ClsOk cx.K 178) (IO : InitOk cx) {u : AV} {y : Value} {xa : Addr} (hA : AOk A 4) (hn : H.n < 1000000) (S : St cx θ ρ ((H.push (.dct [])).push (.acc H.n [])) s) (hu : VRel θ ρ u y) (hx : ρ[H.n + 1]? = some xa) {R : Result → Shared → Prop}
    (h : ∀ s' ρ', Lk cx [] ρ s ρ' s' → St cx θ ρ' ((H.push (.dct [(6, u)])).push (.acc H.n [])) s' → R (.ok (.ret .none)) s') : codeAny (model cx.prog cx.w) A (.call (.ref 115) ⟨[.ref xa, y], []⟩) R s := by
  obtain ⟨fd, b, O1, O2, hgen, hb⟩ := IO.ok
  refine initB_el hb fun q1 q2 q3 q4 e q5 eb he => superE_el he fun p0 p1 p2 p3 ee hpos => ?_
  subst ee eb
  refine enter_code C O1 hgen (hA.le (by decide)) S rfl fun h₀ tk hns hk hsz S₃ => ?_
  have l₃ : Lk cx [] ρ s ρ { s with heap := h₀, toks := tk } := .of_all hk rfl hsz
  refine ks_wpAt_execs_cons (ks_wpAt_Assign_Attr (hs := rfl) (_root_.PySem.wpAt_of_wpAny (wpAny_Name (wpAny_loadName_local O1.kind (O1.loc _ mem2) hns rfl (wpAny_Name (wpAny_loadName_local O1.kind O2.slf hns rfl ?_))))))
  refine Tri.mono (leaf_sat C P Q S₃ (o := .ref (H.n + 1)) ⟨_, hx, rfl⟩ hu (n := 6) rfl (acc_set hn)) fun _ s₄ ⟨ρ₄, l₄, S₄, _⟩ => ?_
  have hx₄ := l₄.at hx
  obtain ⟨o, hob, da, vs, m, hda, rfl, hr⟩ := S₄.getO hx₄ ((acc_get1 hn _).trans ((if_neg (Nat.succ_ne_self _)).trans (if_pos rfl)))
  obtain rfl := Array.eq_empty_of_size_eq_zero hr.size.symm
  refine ks_wpAt_execs_cons (ks_wpAt_Expr_any ?_ (by unfold interactive; show (fd.scope.kind == .module && _) = false; rw [O1.kind]; rfl) rfl)
  refine super_call C O1 O2 S₄.base (ns_step C hns l₄ (fun q => Nat.lt_irrefl _ (S.lt _ q)) S.size) rfl hob hpos (by decide) (list_init_along _) slot_wrapper_get type_list_init entry_wrapper_get (args_wrapper_get _ _ _) (tree_init _ _) (.inl rfl) plain_init entry_init (fun s' _ _ _ _ q => bound_slot kind_init (args_init _) q) fun h' tk' hk' hsz' A' => ?_
  refine run_init (hk' _ _ hob) ⟨_, rfl, _root_.PySem.wpAt_of_wpAny (wpAny_execs_nil ?_)⟩
  have l₅ : Lk cx [] ρ₄ s₄ ρ₄ { s₄ with heap := h', toks := tk' } := .of_all hk' rfl hsz'
  obtain ⟨m', hp⟩ := seqBut (fun _ => #[]) (hk' _ _ hob)
  obtain ⟨S₆, l₆⟩ := (S₄.frame (s' := { s₄ with heap := h', toks := tk' }) hk' S₄.bare hsz').put (X := []) (ao := .acc H.n []) hx₄ (Heap.SameBut.update ..) hp ⟨da, #[], m', hda, rfl, .nil⟩
  refine h _ ρ₄ (l₃.trans (l₄.trans (l₅.trans l₆))) (S₆.congr rfl fun i ao q => ?_)
  rw [AH.get_set (n40 (k := 2) hn (by decide)), acc_get1 hn]
  rw [acc_get2 hn] at q
  by_cases h1 : i = H.n + 1
  · rw [if_pos h1]
    rw [if_neg (h1 ▸ Nat.succ_ne_self _ : i ≠ H.n), if_pos h1] at q
    exact q
  · rw [if_neg h1]; exact q
theorem leaf_acc (C : COk cx) (P : ClsOk cx.K 94) (Q : ClsOk cx.K 178) (IO : InitOk cx) {vs : List AV} {ys : List Value} (hA : AOk A 8) (S : St cx θ ρ H s) (hv : All2 (VRel θ ρ) vs ys) (e : callAcc H vs = some (v, H')) :
    Tri cx A (call (.ref 178) ys []) s (Res cx θ ρ s H' v) := by
  cases hv with
  | nil => exact no_el e
  | cons hu hv => cases hv with
    | cons _ _ => exact no_el e
    | nil =>
      refine cnd_el e fun hn e => ?_
      have hn := Nat.blt_eq.mp hn
      obtain ⟨rfl, rfl⟩ := sm2 e
      have X := C.K.keeps S.base
      obtain ⟨hh, g, dd, t, os⟩ := s
      obtain ⟨S₂, l₂, hx₂⟩ := acc_born S hn
      refine wpAny_call (make_L (lmakes_of X IO.made) (looks_findIn X IO.init) (fun self => bind_fn X self IO.fn) ?_)
      exact acc_init C P Q IO ((AOk.make (n := 6) hA).le (by decide)) hn S₂ (l₂.vrel hu) hx₂ fun s' ρ' l S' => ⟨rfl, ρ', l₂.trans l, S', _, l.at hx₂, rfl⟩
end
end Mine
namespace Mine
open PySem PySem.W PyProof.Rows PySem.Calls

structure PageOk (cx : Cx) : Prop where
  made : makesIn cx.K 94 = true
  init : findIn cx.K (.ref 94) "__init__" = some (some (.ref 35))
  fn : typeIn cx.K (.ref 35) = some (.type "function")

section
variable {cx : Cx} {θ : Th} {X ρ ρ' : List Addr} {H H' : AH} {s s' s'' : Shared} {A : Around} {v : AV} {x y z : Value} {M : Model} {K : Frag} {E : Value → Shared → Prop}

theorem leaf_page (C : COk cx) (P : PageOk cx) {f : Fns} {n : Nat} {vs : List AV} {ys : List Value} (call : CallOk cx θ f n) (hA : AOk A (n + 8)) (S : St cx θ ρ H s) (hv : All2 (VRel θ ρ) vs ys) (e : callPage f H vs = some (v, H')) :
    Tri cx A (PySem.call (.ref 94) ys []) s (Res cx θ ρ s H' v) := by
  unfold callPage at e
  obtain ⟨hn, e⟩ := cond_true e
  have hn := Nat.blt_eq.mp hn
  split at e
  rotate_left
  · cases e
  rename_i H₁ hc
  cases e
  have X := C.K.keeps S.base
  have big : (1000000 : Nat) + 4 < 2 ^ 40 := by decide
  have S₁ := S.push (o := emptyDict) (ao := .dct []) (by omega) rfl ⟨[], 0, rfl, .nil⟩
  have hd₁ : (ρ ++ [s.heap.objs.size])[H.n]? = some s.heap.objs.size := by rw [← S.len]; simp
  have S₂ := S₁.push (o := instObj 94 s.heap.objs.size) (ao := .page H.n) (by show H.n + 1 + 2 < _; omega) rfl ⟨s.heap.objs.size, at_mono hd₁, rfl⟩
  have sz₁ : ({ s with heap := s.heap.push emptyDict } : Shared).heap.objs.size = s.heap.objs.size + 1 := Heap.size_push ..
  rw [sz₁] at S₂
  have l₂ : Lk cx [] ρ s ((ρ ++ [s.heap.objs.size]) ++ [s.heap.objs.size + 1]) { s with heap := (s.heap.push emptyDict).push (instObj 94 s.heap.objs.size) } := by
    have := (Lk.push (cx := cx) (X := []) (ρ := ρ) (s := s) (o := emptyDict)).trans (Lk.push (o := instObj 94 s.heap.objs.size))
    rwa [sz₁] at this
  have hx₂ : ((ρ ++ [s.heap.objs.size]) ++ [s.heap.objs.size + 1])[H.n + 1]? = some (s.heap.objs.size + 1) := by
    have := S₁.len
    have e1 : (ρ ++ [s.heap.objs.size]).length = H.n + 1 := this
    rw [← e1]; simp
  have hself : VRel θ (ρ ++ [s.heap.objs.size] ++ [s.heap.objs.size + 1]) (.ref (H.n + 1)) (.ref (s.heap.objs.size + 1)) := ⟨_, hx₂, rfl⟩
  refine wpAny_call ?_
  obtain ⟨hh, g, dd, t, os⟩ := s
  refine make_core (makes_of X P.made) (looks_findIn X P.init) (fun self => bind_fn X self P.fn) (.inl rfl) ?_
  refine codeAny_mono (call ((AOk.make (n := n + 6) hA).le (by omega)) S₂ (.cons hself (hv.imp fun _ _ q => l₂.vrel q)) hc) fun r s₃ hr => ?_
  unfold CallPost at hr
  split at hr
  · obtain ⟨ρ₃, l₃, S₃, hy⟩ := hr
    have hy : _ = Value.none := hy
    subst hy
    exact ⟨rfl, ρ₃, l₂.trans l₃, S₃, _, l₃.at hx₂, rfl⟩
  · exact hr.elim
end
end Mine
namespace Mine
open PySem PySem.W PyProof.Rows PySem.Calls

section
variable {prog : Program} {w : World} {A : Around} {E : Value → Shared → Prop} {s : Shared}

theorem wp_yes {α : Type} {M : Model} {c : Prop} [Decidable c] {t e : Sem α} {Q : α → Shared → Prop} (hc : c) (h : wpAny M A t Q E s) : wpAny M A (if c then t else e) Q E s := by rw [if_pos hc]; exact h
theorem wp_no {α : Type} {M : Model} {c : Prop} [Decidable c] {t e : Sem α} {Q : α → Shared → Prop} (hc : ¬ c) (h : wpAny M A e Q E s) : wpAny M A (if c then t else e) Q E s := by rw [if_neg hc]; exact h
theorem wp_off {α : Type} {M : Model} {b : Bool} {t e : Sem α} {Q : α → Shared → Prop} (hb : b = false) (h : wpAny M A e Q E s) : wpAny M A (if b = true then t else e) Q E s := wp_no (ne_true_of_eq_false hb) h
/-! an iterator over whatever holds items -/
theorem next_seq_item {it l : Addr} {i n : Nat} {items : Array Value} {ol : Obj} {x : Value} {Q : Option Value → Shared → Prop} (hit : s.heap.IsListIter it l i)
    (hol : s.heap.get? l = some ol) (hdl : ol.data = .seq items n) (hx : items[i]? = some x)
    (hQ : ∀ h', h'.IsListIter it l (i + 1) → Heap.SameBut it s.heap h' → Q (some x) { s with heap := h' }) :
    wpAny (model prog w) A (pyNext (.ref it)) Q E s := by
  obtain ⟨o, ho, hc, hd⟩ := id hit
  unfold pyNext
  refine wpAny_bind (wpAny_attempt (wpAny_callSpecial?_slot (name := Str.ofString "__next__") hit.typeIs slot_listiter_next
    (wpAny_call_entry slot_listiter_next hit.typeIs entry_listiter_next ?_ (args_listiter_next _))))
  show wpAny _ _ (PySem.field (.ref it) 0 >>= _) _ _ s
  refine wpAny_bind (wpAny_field ho hd (x := .ref l) rfl ?_)
  refine wp_off (b := Value.ref l == Value.none) rfl ?_
  show wpAny _ _ (PySem.field (.ref it) 1 >>= _) _ _ s
  refine wpAny_bind (wpAny_field ho hd (x := .int i 0) rfl ?_)
  show wpAny _ _ (seqItems? (.ref l) >>= _) _ _ s
  refine wpAny_bind (wpAny_seqItems hol hdl ?_)
  simp only [Int.toNat_natCast, hx]
  refine wpAny_bind (wpAny_setField ho hd (by simp) (wpAny_pure ⟨x, rfl, wpAny_pure (hQ _ ?_ (Heap.SameBut.update ..))⟩))
  exact ⟨_, Heap.get?_update_self _ ho (Obj.isFreed_of_fields (Obj.data_mapFields hd _)), (Obj.cls_mapFields ..).trans hc, by
    rw [Obj.data_mapFields hd]; simp [rawInt]⟩
theorem next_seq_end {it l : Addr} {i n : Nat} {items : Array Value} {ol : Obj} {Q : Option Value → Shared → Prop} (hh : A.handled = none) (hit : s.heap.IsListIter it l i)
    (hol : s.heap.get? l = some ol) (hdl : ol.data = .seq items n) (hx : items[i]? = none)
    (hQ : ∀ h', Heap.ExtBut it s.heap h' → Q none { s with heap := h' }) : wpAny (model prog w) A (pyNext (.ref it)) Q E s := by
  obtain ⟨o, ho, hc, hd⟩ := id hit
  unfold pyNext
  refine wpAny_bind (wpAny_attempt (wpAny_callSpecial?_slot (name := Str.ofString "__next__") hit.typeIs slot_listiter_next
    (wpAny_call_entry slot_listiter_next hit.typeIs entry_listiter_next ?_ (args_listiter_next _))))
  show wpAny _ _ (PySem.field (.ref it) 0 >>= _) _ _ s
  refine wpAny_bind (wpAny_field ho hd (x := .ref l) rfl ?_)
  refine wp_off (b := Value.ref l == Value.none) rfl ?_
  show wpAny _ _ (PySem.field (.ref it) 1 >>= _) _ _ s
  refine wpAny_bind (wpAny_field ho hd (x := .int i 0) rfl ?_)
  show wpAny _ _ (seqItems? (.ref l) >>= _) _ _ s
  refine wpAny_bind (wpAny_seqItems hol hdl ?_)
  simp only [Int.toNat_natCast, hx]
  refine wpAny_bind (wpAny_rule (wpAny_bind (wpAny_setField ho hd (by simp) ?_)))
  show wpAny _ _ (newExc (.type "StopIteration") [] >>= _) _ _ _
  refine wpAny_bind ?_
  simp only [newExc, newTuple]
  refine wpAny_bind (wpAny_newObj_type ?_ (by size_fits))
  refine wpAny_bind (m := firstArgMember _ _) (wpAny_of_eq (a := Value.none) (by first | rfl | (simp only [firstArgMember]; rfl)) ?_)
  refine wpAny_newObj_type ?_ (by size_fits)
  simp only [raiseNew]
  refine wpAny_bind (wpAny_handled ?_)
  rw [show A.in1.handled = none from hh]
  refine wpAny_bind (wpAny_pure (wpAny_throw ?_))
  refine wpAny_bind (wpAny_isInstance (T := "StopIteration") (b := true) ⟨_, Heap.get?_push_size _ rfl, rfl⟩ isSubtype_stop ?_)
  exact wpAny_pure (hQ _ (((Heap.SameBut.update ..).extBut.push _).push _))

/-- pairs out of the own list -/
theorem walks_acc {I ax : Addr} (hh : A.handled = none) (hne : ax ≠ I) {o : Obj} {items : Array Value} {n : Nat} (hd : o.data = .seq items n) (Ts : Nat → Addr) (vals : Nat → Array Value)
    (hit : ∀ j, j < items.size → items[j]? = some (.ref (Ts j))) (hTI : ∀ j, j < items.size → Ts j ≠ I) :
    WalksU prog w A I (I :: ax :: (List.range items.size).map Ts) [I] items.size (fun j v => j < items.size ∧ v = vals j)
      (fun j h => h.IsListIter I ax j ∧ h.get? ax = some o ∧ ∀ k, k < items.size → h.IsTuple (Ts k) (vals k))
      (fun j T h => (j < items.size ∧ T = Ts j) ∧ h.IsListIter I ax (j + 1) ∧ h.get? ax = some o ∧ ∀ k, k < items.size → h.IsTuple (Ts k) (vals k)) where
  sub := fun b hb => by simp at hb; simp [hb]
  frame := fun _ _ _ st hk => ⟨st.1.at fun o e => hk I (by simp) o e, hk ax (by simp) _ st.2.1,
    fun k hk' => (st.2.2 k hk').at fun o e => hk (Ts k) (List.mem_cons_of_mem _ (List.mem_cons_of_mem _ (List.mem_map.mpr ⟨k, List.mem_range.mpr hk', rfl⟩))) o e⟩
  item := fun i s Q E hi st hQ => by
    refine next_seq_item st.1 st.2.1 hd (x := .ref (Ts i)) (hit i hi) fun h' hit' hs' => ?_
    have tup : ∀ k, k < items.size → h'.IsTuple (Ts k) (vals k) := fun k hk' => (st.2.2 k hk').extBut hs'.extBut (hTI k hk')
    exact hQ (Ts i) (vals i) h' s.toks ⟨hi, rfl⟩ (tup i hi) ⟨⟨hi, rfl⟩, hit', (hs'.2 ax hne).trans st.2.1, tup⟩ fun b o hb e => hs'.extBut b o (fun h => hb (by simp [h])) e
  go := fun _ _ _ _ _ s Q _ hm hQ => wpAny_letOwnedTupleGo_listiter hm.2.1 (hQ s.heap hm.2 fun _ _ _ e => e)
  apart := fun j T _ hm hmem => by
    rcases List.mem_cons.mp hmem with e | e
    · exact hTI j hm.1.1 (hm.1.2 ▸ e)
    · cases e
  done := fun s Q E st hQ => next_seq_end hh st.1 st.2.1 hd (by simp) fun h' he' => hQ h' s.toks fun b o hb e => he' b o (fun h => hb (by simp [h])) e
  self := fun _ _ _ _ st hQ => wpAny_pyIter_listiter st.1 hQ

/-! sum with a start -/
noncomputable def sumFrom (a : Int) (val : Nat → Int) : Nat → Int
  | 0 => a
  | i + 1 => sumFrom a val i + val i
theorem and_i {a b : Bool} (h : a = true) (h' : b = true) : (a && b) = true := by rw [h, h']; rfl
theorem args_sum2 (a b : Value) : argsOk "sum" ⟨[a, b], []⟩ := by unfold argsOk; kernel_rfl
theorem sum_loop {R : Result → Shared → Prop} {I : Addr} {fp wr : List Addr} {G : Array GenState → Array GenState → Prop} {n : Nat} {P : Nat → Value → Prop} {St : Nat → Shared → Prop} (W : WalksS prog w A.in1 I fp wr G n P St) (a : Int) (val : Nat → Int) (hval : ∀ i v, P i v → ∃ t, v = .int (val i) t) (hfit : ∀ j, j < n → InLong (val j) ∧ InLong (sumFrom a val (j + 1))) (S : Addr) (hSf : S ∉ fp) :
    ∀ (k i : Nat) (s : Shared) (tA : Tok) (c : Nat), n - i = k → i ≤ n → St i s → s.heap.get? S = some { cls := .type "list", dict := none, data := .seq #[.int (sumFrom a val i) tA] c, slots := #[] } →
    (∀ s' t', Moved (S :: wr) G s s' → R (.ok (.ret (.int (sumFrom a val n) t'))) s') → codeAny (model prog w) A (.builtin "sum.loop" ⟨[.ref I, .ref S, rawInt 0, rawInt 0], []⟩) R s := by
  have hSw : S ∉ wr := fun h => hSf (W.sub _ h)
  have hsub : ∀ b ∈ wr, b ∈ S :: wr := fun b hb => List.mem_cons_of_mem _ hb
  intro k
  induction k with
  | zero =>
    intro i s tA c hk hi hst hS hR
    have hin : i = n := Nat.le_antisymm hi (Nat.le_of_sub_eq_zero hk)
    subst hin
    refine codeAny_builtin F.entry_sum_loop ?_
    rw [Around.under_plainId F.plain_sum_loop _]
    show wpAny _ A.in1 (seqItems? (.ref S) >>= _) _ _ s
    refine wpAny_bind (wpAny_seqItems hS rfl ?_)
    show wpAny _ A.in1 (tryCatch (pyNext (.ref I)) _ >>= _) _ _ s
    refine wpAny_bind (wpAny_tryCatch (W.done s _ _ hst fun s' hm => ?_))
    exact wpAny_pure (hR s' tA (hm.mono hsub))
  | succ k ih =>
    intro i s tA c hk hi hst hS hR
    have hlt : i < n := Nat.lt_of_sub_eq_succ hk
    refine codeAny_builtin F.entry_sum_loop ?_
    rw [Around.under_plainId F.plain_sum_loop _]
    show wpAny _ A.in1 (seqItems? (.ref S) >>= _) _ _ s
    refine wpAny_bind (wpAny_seqItems hS rfl ?_)
    show wpAny _ A.in1 (tryCatch (pyNext (.ref I)) _ >>= _) _ _ s
    refine wpAny_bind (wpAny_tryCatch (W.item i s _ _ hlt hst fun v s' hP hst' hm => ?_))
    obtain ⟨t, rfl⟩ := hval i v hP
    have hS' := hm.heap S _ hSw hS
    obtain ⟨⟨f1, f2⟩, f3, f4⟩ := hfit i hlt
    refine wp_yes (c := ((decide (-(2 ^ 63) ≤ val i) && decide (val i < 2 ^ 63)) && (decide (-(2 ^ 63) ≤ sumFrom a val i + val i) && decide (sumFrom a val i + val i < 2 ^ 63))) = true) (and_i (and_i (decide_eq_true f1) (decide_eq_true f2)) (and_i (decide_eq_true f3) (decide_eq_true f4))) ?_
    refine wpAny_bind (wpAny_mkInt ?_)
    show wpAny _ A.in1 (updateSeq S (fun _ => #[.int (sumFrom a val i + val i) s'.toks]) >>= _) _ _ _
    refine wpAny_bind ?_
    refine wpAny_updateSeq hS' rfl (wpAny_pure ⟨plainId_quiet F.plain_sum_loop _, ih (i + 1) _ s'.toks _ (congrArg Nat.pred hk) hlt (W.frame _ s' _ _ hst' (Nat.le_succ _) fun b hb o e => ?_) (Heap.get?_update_self _ hS' rfl) fun s'' t'' hm'' => ?_⟩)
    · exact (Heap.get?_update_other _ _ (fun h : S = b => hSf (by rw [h]; exact hb))).trans e
    · refine hR s'' t'' (Moved.trans W.gtrans ((hm.mono hsub).then_heap (Nat.le_succ _) fun b o hb e => ?_) hm'')
      exact (Heap.get?_update_other _ _ (fun h : S = b => hb (by rw [h]; exact List.mem_cons_self))).trans e

theorem call_sum2 {x : Value} {a : Int} {ta : Tok} {Q : Value → Shared → Prop} (ha : InLong a)
    (h : wpAny (model prog w) A.in1 (pyIter x) (fun it s₂ => ∃ I fp wr G n P St val, it = .ref I ∧ WalksS prog w A.in1 I fp wr G n P St ∧ St 0 s₂ ∧ (∀ b ∈ fp, b < s₂.heap.objs.size) ∧
      (∀ i v, P i v → ∃ t, v = .int (val i) t) ∧ (∀ j, j < n → InLong (val j) ∧ InLong (sumFrom a val (j + 1))) ∧
      ∀ s' t', Moved wr G s₂ s' → Q (.int (sumFrom a val n) t') s') E s) :
    wpAny (model prog w) A (call (.builtin "sum") [x, .int a ta]) Q E s := by
  refine call_function_tree F.kind_sum F.plain_sum F.entry_sum (args_sum2 _ _) ?_
  unfold Builtin.«sum»
  refine wp_no (show ¬ 2 + 0 > 2 by decide) ?_
  refine wpAny_bind (wpAny_of_eq (show Builtin.Builtins.bindParams "sum" ["start"] 0 ⟨[.int a ta], []⟩ = pure [some (.int a ta)] from rfl) ?_)
  refine wpAny_bind (wpAny_mono h (fun it s₂ h₂ => ?_) fun _ _ e => e)
  obtain ⟨I, fp, wr, G, n, P, St, val, rfl, W, hst, hfp, hval, hfit, hQ⟩ := h₂
  refine wp_yes (c := (decide (-(2 ^ 63) ≤ a) && decide (a < 2 ^ 63)) = true) (and_i (decide_eq_true ha.1) (decide_eq_true ha.2)) ?_
  refine wpAny_bind (wpAny_rule ?_)
  refine wpAny_bind (wpAny_mkInt ?_)
  refine wpAny_bind (wpAny_pure ?_)
  simp only [List.forIn_cons, List.forIn_nil]
  refine wpAny_bind (wpAny_bind (wpAny_bind (wpAny_isInstance (T := "int") (b := false) (typeIs_int _ _ _) PySem.sub_int_str (wp_no Bool.false_ne_true (wpAny_pure (wpAny_bind (wpAny_bind (wpAny_isInstance (T := "int") (b := false) (typeIs_int _ _ _) PySem.sub_int_bytes (wp_no Bool.false_ne_true (wpAny_pure (wpAny_bind (wpAny_bind (wpAny_isInstance (T := "int") (b := false) (typeIs_int _ _ _) PySem.sub_int_bytearray (wp_no Bool.false_ne_true (wpAny_pure (wpAny_pure ?_))))))))))))))))
  refine wpAny_bind (wpAny_newObj_type ?_)
  have hSf : s₂.heap.objs.size ∉ fp := fun hm => Nat.lt_irrefl _ (hfp _ hm)
  refine wpAny_pure ⟨plainId_quiet F.plain_sum_loop _, sum_loop W a val hval hfit s₂.heap.objs.size hSf n 0 _ s₂.toks 0 rfl (Nat.zero_le _)
    (W.frame 0 s₂ _ _ hst (Nat.le_succ _) fun b _ o e => Heap.get?_push_of_some _ e) (Heap.get?_push_size _ rfl) fun s' t' hm => ?_⟩
  exact hQ s' t' (hm.drop_new (Nat.le_succ _))
end

/-! the code of a generator expression -/
/-- a def's code object that holds a table -/
noncomputable def codeAtIn (K : Frag) (c P : Addr) : Bool := isS (K.lookup c) fun o => dtfields o.data fun vs => o.cls == .type "code" && (vs.toList[11]? == some (.ref P) && (isS vs.toList[18]? (fun v => vlstr v fun _ _ => true) &&
  (isS vs.toList[7]? (fun v => vlint v fun _ _ => true) && (isS vs.toList[9]? (fun v => vlbool v fun _ => true) && (isS vs.toList[10]? (fun v => vlint v fun _ _ => true) && !Nat.beq c P)))))
theorem getD_of {vs : Array Value} {k : Nat} {v : Value} (h : vs.toList[k]? = some v) : vs.getD k .none = v := by rw [Array.getD_eq_getD_getElem?, ← Array.getElem?_toList, h]; rfl
theorem code_of {K : Frag} {h : Heap} (X : K.In h) {c P : Addr} (e : codeAtIn K c P = true) {op : Obj} {ps : Array Value} (hp : h.get? P = some op) (hd : op.data = .fields ps) (ht : TriplesOk ps.toList) : h.IsCode c P ps :=
  isS_el e fun o ho e => dtfields_el e fun vs hvs e => have ⟨_, e⟩ := and_t e; have ⟨h11, e⟩ := and_t e; have ⟨h18, e⟩ := and_t e; have ⟨h7, e⟩ := and_t e; have ⟨h9, e⟩ := and_t e; have ⟨h10, e⟩ := and_t e;
    isS_el h18 fun _ h18 q => vlstr_el q fun x tx e18 _ => isS_el h7 fun _ h7 q => vlint_el q fun i ti e7 _ => isS_el h9 fun _ h9 q => vlbool_el q fun b e9 _ => isS_el h10 fun _ h10 q => vlint_el q fun j tj e10 _ =>
    ⟨o, vs, x, tx, i, ti, b, j, tj, op, X _ _ ho, hvs, getD_of (beq_iff_eq.mp h11), (getD_of h18).trans e18, (getD_of h7).trans e7, (getD_of h9).trans e9, (getD_of h10).trans e10, hp, hd, ht, Nat.ne_of_beq_eq_false (not_t e)⟩
theorem table_of {K : Frag} {h : Heap} (X : K.In h) {c P : Addr} (e : codeAtIn K c P = true) {ps : Array Value} (hp : h.get? P = some { cls := .none, data := .fields ps }) : h.TableAt c P ps :=
  isS_el e fun o ho e => dtfields_el e fun vs hvs e => have ⟨hc, e⟩ := and_t e; ⟨⟨o, vs, X _ _ ho, beq_iff_eq.mp hc, hvs, Array.getElem?_toList.symm.trans (beq_iff_eq.mp (and_t e).1)⟩, hp⟩

/-- what is asked of a table -/
structure TabIn (cx : Cx) (c P : Addr) : Prop where
  mem : P ∈ cx.tabs
  code : codeAtIn cx.K c P = true
  old : ∃ ps₀, cx.h₁.TableAt c P ps₀
  st : P ≠ cStatics

section
variable {cx : Cx} {θ : Th} {X ρ ρ' : List Addr} {H H' : AH} {s s' s'' : Shared} {A : Around} {v : AV} {x y z : Value} {E : Value → Shared → Prop}
theorem St.tab (S : St cx θ ρ H s) {c P : Addr} (T : TabIn cx c P) {ps more : Array Value} {h' : Heap} {tk : Nat} (ht : s.heap.TableAt c P ps) (ht' : h'.TableAt c P (ps ++ more)) (tr : TriplesOk (ps ++ more).toList) (hx : Heap.ExtBut P s.heap h') (hz : s.heap.objs.size ≤ h'.objs.size) :
    St cx θ ρ H { s with heap := h', toks := tk } ∧ Lk cx [] ρ s ρ { s with heap := h', toks := tk } := by
  obtain ⟨ps₀, ht₀⟩ := T.old
  have hlt := (S.oldk.t P T.mem).1
  refine ⟨⟨S.len, S.nodup, fun a m => Nat.lt_of_lt_of_le (S.lt a m) hz, S.old, S.small, fun i ao e => ?_, fun b o e => ?_, Nat.le_trans S.size hz, ⟨S.oldk.k.step_table ht₀ ht ht' hx T.st, fun Q m => ?_⟩, S.bare⟩, ⟨⟨[], (List.append_nil _).symm, fun _ m => nomatch m⟩, fun b o e _ n => hx b o (fun z => n (z ▸ T.mem)) e, rfl, hz⟩⟩
  · obtain ⟨a, o, ha, ho, q⟩ := S.obj i ao e
    exact ⟨a, o, ha, hx a o (fun z => Nat.lt_irrefl _ (Nat.lt_of_lt_of_le hlt (z ▸ S.old a (List.mem_of_getElem? ha)))) ho, q⟩
  · refine hx b o (fun z => ?_) (S.base b o e)
    have := hideAll_none (h := cx.h₁) cx.tabs T.mem
    rw [z] at e
    have e : (hideAll cx.h₁ cx.tabs).get? P = some o := e
    rw [this] at e
    cases e
  · obtain ⟨l, qs, e, t⟩ := S.oldk.t Q m
    by_cases hq : Q = P
    · subst hq
      exact ⟨l, _, ht'.2, tr⟩
    · exact ⟨l, qs, hx _ _ hq e, t⟩

/-- the code is found, or made -/
theorem gen_code (C : COk cx) (S : St cx θ ρ H s) {c P : Addr} (T : TabIn cx c P) {env : Env} {pos : Pos} {qn : Str} {sc : Scope} {Q : Value → Shared → Prop} (hc : env.code = .ref c)
    (h : ∀ c' h' tk, Heap.ExtBut P s.heap h' → s.heap.objs.size ≤ h'.objs.size → St cx θ ρ H { s with heap := h', toks := tk } → Lk cx [] ρ s ρ { s with heap := h', toks := tk } → Q c' { s with heap := h', toks := tk }) :
    wpAny (model cx.prog cx.w) A (genexprCode env pos qn sc) Q E s := by
  obtain ⟨l, ps, e, t⟩ := S.oldk.t P T.mem
  have X := C.K.keeps S.base
  have hok := code_of X T.code e rfl t
  have htab := table_of X T.code e
  cases hnf : codeAmong pos ps.toList with
  | some c' => exact wpAny_genexprCode_hit hc hok hnf (h c' s.heap s.toks (Heap.ExtBut.refl _ _) (Nat.le_refl _) S .refl)
  | none =>
    refine wpAny_genexprCodeX hc hok htab hnf fun c' h' tk hx hge hlt hcode _ htab' _ => ?_
    obtain ⟨_, _, _, _, _, _, _, _, _, _, _, _, _, _, _, _, _, hp', hd', ht', _⟩ := hcode
    have hz : s.heap.objs.size ≤ h'.objs.size := Nat.le_trans hge (Nat.le_of_lt hlt)
    obtain ⟨S', l'⟩ := S.tab T (tk := tk) htab htab' ht' hx hz
    exact h (.ref c') h' tk hx hz S' l'
end
end Mine
namespace Mine
open PySem PySem.W PyProof.Rows PySem.Calls

/-! the text of __len__ and __str__ -/
noncomputable def plainK (p : Str × NameKind) : Bool := match p.2 with
  | .local => true
  | .globalImplicit => true
  | _ => false
noncomputable def genScope (g : Str) (sc : Scope) : Bool := isFn sc.kind && !sc.isCoroutine && sc.names.all plainK && isLoc sc.names ".0" && isLoc sc.names "fws" && isLoc sc.names "part" && isGlobal sc.names g
structure GenSc (g : Str) (sc : Scope) : Prop where
  kind : sc.kind = .function
  co : sc.isCoroutine = false
  cell : ∀ y ∈ sc.names, y.2 ≠ .cell
  free : ∀ y ∈ sc.names, y.2 ≠ .free
  l0 : sc.names.lookup (".0" : Str) = some .local
  la : sc.names.lookup ("fws" : Str) = some .local
  lb : sc.names.lookup ("part" : Str) = some .local
  lg : sc.names.lookup g = some .globalImplicit
theorem isLoc_out {ns : Names} {x : Str} (h : isLoc ns x = true) : ns.lookup x = some .local := by
  change (match slot x 0 ns with | some (_, .local) => true | _ => false) = true at h
  cases hs : slot x 0 ns with
  | none => rw [hs] at h; exact nomatch h
  | some p =>
    rw [hs] at h
    obtain ⟨i, k⟩ := p
    cases k with
    | «local» => exact slot_lookup hs
    | _ => exact nomatch h
theorem isGlobal_out {ns : Names} {x : Str} (h : isGlobal ns x = true) : ns.lookup x = some .globalImplicit := by
  change (match slot x 0 ns with | some (_, k) => (match k with | .globalImplicit => true | _ => false) | none => false) = true at h
  cases hs : slot x 0 ns with
  | none => rw [hs] at h; exact nomatch h
  | some p =>
    rw [hs] at h
    obtain ⟨i, k⟩ := p
    cases k with
    | globalImplicit => exact slot_lookup hs
    | _ => exact nomatch h
theorem isFn_out {k : ScopeKind} (h : isFn k = true) : k = .function := by
  cases k with
  | function => rfl
  | _ => exact nomatch h
theorem plainK_out {p : Str × NameKind} (h : plainK p = true) : p.2 ≠ .cell ∧ p.2 ≠ .free := by
  obtain ⟨x, k⟩ := p
  cases k with
  | «local» => exact ⟨(nomatch ·), (nomatch ·)⟩
  | globalImplicit => exact ⟨(nomatch ·), (nomatch ·)⟩
  | _ => exact nomatch h
theorem genScope_out {g : Str} {sc : Scope} (h : genScope g sc = true) : GenSc g sc :=
  have ⟨h, h7⟩ := and_t h; have ⟨h, h6⟩ := and_t h; have ⟨h, h5⟩ := and_t h; have ⟨h, h4⟩ := and_t h; have ⟨h, h3⟩ := and_t h; have ⟨h1, h2⟩ := and_t h;
  ⟨isFn_out h1, not_t h2, fun y hy => (plainK_out (List.all_eq_true.mp h3 y hy)).1, fun y hy => (plainK_out (List.all_eq_true.mp h3 y hy)).2, isLoc_out h4, isLoc_out h5, isLoc_out h6, isGlobal_out h7⟩
/-- (elt for fws, part in self) -/
noncomputable def tup2B (e : Expr) : Bool := isTuple e fun l _ _ => isC l fun a r => nmB "fws" a && is1 r (nmB "part")
theorem tup2B_el {e : Expr} {P : Prop} (h : tup2B e = true) (g : ∀ p q k r, e = .Tuple [.Name "fws" p, .Name "part" q] k r → P) : P :=
  isTuple_el h fun _ k r e1 h => isC_el h fun _ _ e2 h => nmB_el (and_t h).1 fun p e3 => is1_el (and_t h).2 fun _ e4 h => nmB_el h fun q e5 => g p q k r (by rw [e1, e2, e3, e4, e5])
noncomputable def genB (elt : Expr → Bool) (g : Str) (e : Expr) : Bool := isGeneratorExp e fun el gs scope _ => elt el && (genScope g scope && is1 gs fun c => tup2B c.target && (nmB "self" c.iter && (none? c.ifs && ieq c.is_async 0)))
theorem genB_el {elt : Expr → Bool} {f : Str} {e : Expr} {P : Prop} (h : genB elt f e = true) (g : ∀ el pa pb kt pt ps scope pos, e = .GeneratorExp el [⟨.Tuple [.Name "fws" pa, .Name "part" pb] kt pt, .Name "self" ps, [], 0⟩] scope pos → elt el = true → GenSc f scope → P) : P :=
  isGeneratorExp_el h fun el gs scope pos e1 h => have ⟨h1, h⟩ := and_t h; have ⟨h2, h⟩ := and_t h; is1_el h fun c e2 h => have ⟨h3, h⟩ := and_t h; have ⟨h4, h⟩ := and_t h; have ⟨h5, h6⟩ := and_t h;
    tup2B_el h3 fun pa pb kt pt e3 => nmB_el h4 fun ps e4 => g el pa pb kt pt ps scope pos (by obtain ⟨t, it, ifs, as⟩ := c; have e5 : ifs = [] := none?_out h5; have e6 : as = 0 := ieq_iff.mp h6; rw [e1, e2, show t = _ from e3, show it = _ from e4, e5, e6]) h1 (genScope_out h2)

/-- what the two generator expressions ask of the fixed part -/
structure GenTop (cx : Cx) : Prop where
  bm : cx.mg "__builtins__" = some (.ref 4)
  md : ∃ o, cx.K.lookup 4 = some o ∧ o.cls = .type "module" ∧ o.dict = some builtinsNs ∧ o.data = .plain

section
variable {cx : Cx} {θ : Th} {X ρ ρ' : List Addr} {H H' : AH} {s s' s'' : Shared} {A : Around} {v : AV} {x y z : Value} {E : Value → Shared → Prop} {fd : FuncData} {b : List Stmt} {ps : List Str}

/-- a name of the built-ins, in any function's frame -/
theorem env_builtin {env : Env} {x : Str} {pos : Pos} {y : Value} {Q : Value → Shared → Prop} (C : COk cx) (hk : env.scope.kind = .function) (hn : env.kindOf x = some .globalImplicit) (hg : env.globals = mainGlobals) (hb : env.builtins = builtinsNs) (hK : ∀ b o, cx.h₀.get? b = some o → s.heap.get? b = some o)
    (hd : (x == ("__debug__" : Str)) = false) (hm : cx.mg x = none) (hv : cx.mb x = some y) (h : Q y s) : wpAny (model cx.prog cx.w) A (eval (.Name x pos) env) Q E s := by
  obtain ⟨loose, T⟩ := C.top
  exact Name_function_global hk hn (loadGlobal_builtin (env := env) (by rw [hg]; exact T.g.keeps hK) hm (by rw [hb]; exact T.b.keeps hK) hv h) hd
theorem env_global {env : Env} {x : Str} {pos : Pos} {y : Value} {Q : Value → Shared → Prop} (C : COk cx) (hk : env.scope.kind = .function) (hn : env.kindOf x = some .globalImplicit) (hg : env.globals = mainGlobals) (hK : ∀ b o, cx.h₀.get? b = some o → s.heap.get? b = some o)
    (hd : (x == ("__debug__" : Str)) = false) (hm : cx.mg x = some y) (h : Q y s) : wpAny (model cx.prog cx.w) A (eval (.Name x pos) env) Q E s := by
  obtain ⟨loose, T⟩ := C.top
  exact Name_function_global hk hn (loadGlobal_global (env := env) (by rw [hg]; exact T.g.keeps hK) hm h) hd

/-- where a tuple stands, and what it holds -/
noncomputable def tupAt (vs : Array Value) (j : Nat) : Addr := match vs[j]? with
  | some (.ref a) => a
  | _ => 0
noncomputable def valsAt (h : Heap) (a : Addr) : Array Value := match h.get? a with
  | some ⟨_, _, .seq v _, _⟩ => v
  | _ => #[]

theorem gen_self {a₀ L ax d c P : Addr} {vs : Array Value} {n : Nat} {m : Str → Option Value} {el : Expr} {pa pb pt ps pos : Pos} {kt : Nat} {scope : Scope} {g : Str} {F : Nat → Value → Prop} {Q : Value → Shared → Prop} (C : COk cx) (GT : GenTop cx) (AO : AccOk cx.K) (TI : TabIn cx c P) (hA : AOk A 0)
    (hfk : fd.scope.kind = .function) (hfs : fd.scope.names.lookup ("self" : Str) = some .local) (hfg : fd.globals = mainGlobals) (hfb : fd.builtins = builtinsNs) (hfc : fd.code = .ref c) (G : GenSc g scope) (S : St cx θ ρ H s) (hns : s.heap.Ns L m) (hm : m "self" = some (.ref ax))
    (hob : s.heap.get? ax = some { cls := .ref 178, dict := some d, data := .seq vs n }) (hax : cx.h₁.objs.size ≤ ax)
    (hT : ∀ j, j < vs.size → vs[j]? = some (.ref (tupAt vs j)) ∧ cx.h₁.objs.size ≤ tupAt vs j ∧ s.heap.IsTuple (tupAt vs j) (valsAt s.heap (tupAt vs j)) ∧ ∃ va vb, valsAt s.heap (tupAt vs j) = #[va, vb])
    (helt : ∀ (A' : Around) E' i va vb (u : Shared) m₂ C' code, A'.handled = none → A'.depth ≤ A.depth + 1 → A'.units ≤ A.units + 8 → i < vs.size → #[va, vb] = valsAt s.heap (tupAt vs i) → u.heap.Ns C' m₂ → m₂ "fws" = some va → m₂ "part" = some vb → (∀ b o, cx.h₀.get? b = some o → u.heap.get? b = some o) →
      wpAny (model cx.prog cx.w) A' (eval el (genEnv scope [] C' code builtinsNs (callEnv fd L a₀))) (fun y s₃ => F i y ∧ Keeps u s₃) E' u)
    (hQ : ∀ ga s₅ FP WR GG P' ST, St cx θ ρ H s₅ → Lk cx [] ρ s ρ s₅ → Heap.ExtBut P s.heap s₅.heap → WalksS cx.prog cx.w A.in4 ga FP WR GG vs.size P' ST → (∀ i v, P' i v → F i v) → ST 0 s₅ → (∀ j s', ST j s' → s'.TypeIs (.ref ga) "generator") → (∀ b ∈ FP, b < s₅.heap.objs.size) → ga ∈ FP → (∀ b ∈ WR, s.heap.objs.size ≤ b) →
      (∀ x y, AllBare x → GG x y → AllBare y) → Q (.ref ga) s₅) :
    wpAny (model cx.prog cx.w) A (eval (.GeneratorExp el [⟨.Tuple [.Name "fws" pa, .Name "part" pb] kt pt, .Name "self" ps, [], 0⟩] scope pos) (callEnv fd L a₀)) Q (fun _ _ => False) s := by
  obtain ⟨loose, T⟩ := C.top
  have hPlt := (S.oldk.t P TI.mem).1
  refine wpAny_GeneratorExp_walksQTD (cl := []) hA.hd G.co (closureFor_none G.free) G.cell G.l0 G.la G.lb (by decide) G.kind hA.room ?_ (fun _ => rfl)
  refine wpAny_Name (wpAny_loadName_local hfk hfs hns hm ?_)
  refine acc_iter (C.K.keeps S.base) AO hob ?_
  refine ⟨(T.nolimit.keeps S.base).push _, ?_⟩
  have hz₂ : s.heap.objs.size ≤ (s.heap.push { cls := .type "list_iterator", data := .fields #[.ref ax, .int 0 0] }).objs.size := by rw [Heap.size_push]; exact Nat.le_succ _
  have S₂ : St cx θ ρ H { s with heap := s.heap.push { cls := .type "list_iterator", data := .fields #[.ref ax, .int 0 0] } } := S.frame (fun b o e => Heap.get?_push_of_some _ e) S.bare hz₂
  refine gen_code C S₂ TI hfc fun code h' tk hx hz S₃ l₃ => ?_
  obtain ⟨omd, hmd, hm1, hm2, hm3⟩ := GT.md
  have X₃ := C.K.keeps S₃.base
  refine wpAny_builtinsFor (s := { s with heap := h', toks := tk }) (by show (_ : Heap).Ns fd.globals _; rw [hfg]; exact T.g.keeps S₃.base) GT.bm (by decide) (X₃ _ _ hmd) hm1 hm2 hm3 ?_
  have hI : s.heap.objs.size < h'.objs.size := Nat.lt_of_lt_of_le (by show _ < (s.heap.push _).objs.size; rw [Heap.size_push]; exact Nat.lt_succ_self _) hz
  have hIP : s.heap.objs.size ≠ P := fun e => Nat.lt_irrefl _ (Nat.lt_of_lt_of_le (e ▸ hPlt) S.size)
  have up : ∀ b o, b ≠ P → s.heap.get? b = some o → h'.get? b = some o := fun b o hb e => hx b o hb (Heap.get?_push_of_some _ e)
  have hge : ∀ b, cx.h₁.objs.size ≤ b → b ≠ P := fun b hb e => Nat.lt_irrefl _ (Nat.lt_of_lt_of_le (e ▸ hPlt) hb)
  have hlts : ∀ j, j < vs.size → tupAt vs j < s.heap.objs.size := fun j hj => by obtain ⟨_, _, ⟨_, e, _⟩, _⟩ := hT j hj; exact Heap.lt_size e
  refine ⟨s.heap.objs.size, _, _, _, _, _, _, fun _ => true, F, rfl, fun A' hA' => walks_acc (o := { cls := .ref 178, dict := some d, data := .seq vs n }) hA' (Nat.ne_of_lt (Heap.lt_size hob)) rfl (tupAt vs) (fun j => valsAt s.heap (tupAt vs j)) (fun j hj => (hT j hj).1) (fun j hj => Nat.ne_of_lt (hlts j hj)), ?_, ?_, ?_, ?_, ?_, ?_, ?_⟩
  · rintro i vals ⟨hi, rfl⟩
    exact (hT i hi).2.2.2
  · exact ⟨⟨_, hx _ _ hIP (Heap.get?_push_size _ rfl), rfl, rfl⟩, up _ _ (hge _ hax) hob, fun k hk => (hT k hk).2.2.1.at fun o e => up _ _ (hge _ (hT k hk).2.1) e⟩
  · intro b hb
    show b < h'.objs.size
    rcases List.mem_cons.mp hb with rfl | hb
    · exact hI
    · rcases List.mem_cons.mp hb with rfl | hb
      · exact Nat.lt_trans (Heap.lt_size hob) hI
      · obtain ⟨k, hk, rfl⟩ := List.mem_map.mp hb
        exact Nat.lt_trans (hlts k (List.mem_range.mp hk)) hI
  · exact T.nolimit.keeps S₃.base
  · intro hb
    have h1 : cStatics = s.heap.objs.size := List.mem_singleton.mp hb
    have h2 : cStatics < s.heap.objs.size := let ⟨_, hn, _⟩ := T.nolimit.keeps S.base; hn.lt
    exact Nat.lt_irrefl _ (h1 ▸ h2)
  · intro href hk₄
    refine ⟨fun A' E' i va vb s₂ m₂ _ _ _ _ _ _ _ _ => ?_, fun A' E' i va vb s₂ m₂ hA' hD hU hP _ hn₂ hma hmb hk => ?_⟩
    · exact wpAny_pure ⟨rfl, s₂.heap, s₂.toks, rfl, fun _ _ e => e⟩
    · refine helt A' E' i va vb s₂ m₂ _ code hA' hD hU hP.1 hP.2 hn₂ hma hmb fun b o e => ?_
      have e₃ := S₃.base b o e
      refine hk b (List.mem_range.mpr (Heap.lt_size e₃)) (fun hb => ?_) o (hk₄ b o e₃)
      have h1 : b = s.heap.objs.size := List.mem_singleton.mp hb
      have := Heap.lt_size (S.base b o e)
      rw [h1] at this
      exact Nat.lt_irrefl _ this
  · intro a h₅ tk₅ gs hbare hlt hsz hk W GA
    have hps : passing (fun _ => true) vs.size 0 = List.range vs.size := List.filter_eq_self.mpr (fun _ _ => rfl)
    have hpl : (passing (fun _ => true) vs.size 0).length = vs.size := hps ▸ List.length_range
    have hpa : ∀ (j : Nat) i, (passing (fun _ => true) vs.size 0)[j]? = some i → i = j := fun j i e => by
      rw [hps] at e
      obtain ⟨h1, h2⟩ := List.getElem?_eq_some_iff.mp e
      exact h2.symm.trans (List.getElem_range h1)
    rw [hpl] at W
    have hz₅ : h'.objs.size ≤ h₅.objs.size := by rw [hsz]; exact Nat.le_succ_of_le (Nat.le_of_lt hlt)
    have S₅ : St cx θ ρ H { s with gens := s.gens.push gs, toks := tk₅, heap := h₅ } := S₃.frame hk (AllBare.push S.bare hbare) hz₅
    refine hQ a _ _ _ _ _ _ S₅ ?_ (fun b o hb e => hk b o (up b o hb e)) W (fun i v hv => ?_) GA (fun j s' st => st.1.typeIs) (fun b hb => ?_) (List.mem_cons_self ..) (fun b hb => ?_) (fun x y hx' hg' => hg'.bare hx')
    · refine ⟨⟨[], (List.append_nil _).symm, fun _ m => nomatch m⟩, fun b o e _ hn => hk b o (up b o (fun z => hn (z ▸ TI.mem)) e), rfl, Nat.le_trans (Nat.le_of_lt hI) hz₅⟩
    · obtain ⟨j, hj, hF⟩ := hv
      rw [hpa _ _ hj] at hF
      exact hF
    · show b < h₅.objs.size
      rw [hsz]
      rcases List.mem_cons.mp hb with rfl | hb
      · exact Nat.lt_succ_self _
      · rcases List.mem_cons.mp hb with rfl | hb
        · exact Nat.lt_succ_of_lt hlt
        · exact Nat.lt_succ_of_lt (Nat.lt_trans (List.mem_range.mp hb) hlt)
    · rcases List.mem_cons.mp hb with rfl | hb
      · exact Nat.le_of_lt hI
      · have h1 : b = s.heap.objs.size := List.mem_singleton.mp hb
        rw [h1]; exact Nat.le_refl _
end
end Mine
namespace Mine
open PySem PySem.W PyProof.Rows PySem.Calls

noncomputable def lenElt (e : Expr) : Bool := isBinOp e fun l op r _ => call1B "len" "fws" l && (call1B "len" "part" r && Nat.beq op.ctorIdx 0)
theorem lenElt_el {e : Expr} {P : Prop} (h : lenElt e = true) (g : ∀ p q r p' q' r' p'', e = .BinOp (.Call (.Name "len" p) [.Name "fws" q] [] r) .Add (.Call (.Name "len" p') [.Name "part" q'] [] r') p'' → P) : P :=
  isBinOp_el h fun l op r p'' e1 h => have ⟨h1, h⟩ := and_t h; call1B_el h1 fun p q s e2 => call1B_el (and_t h).1 fun p' q' s' e3 => g p q s p' q' s' p'' (by rw [e1, e2, e3, Operator.Add.elim (motive := fun o => o = .Add) op (beq_t (and_t h).2) rfl])
noncomputable def lenE (e : Expr) : Bool := isCl e fun f as _ => nmB "sum" f && isC as fun g r => genB lenElt "len" g && is1 r (attB "self" "_initial_size")
theorem lenE_el {e : Expr} {P : Prop} (h : lenE e = true) (k : ∀ p g q q' r, e = .Call (.Name "sum" p) [g, .Attribute (.Name "self" q) "_initial_size" q'] [] r → genB lenElt "len" g = true → P) : P :=
  isCl_el h fun f as r e1 h => have ⟨h1, h⟩ := and_t h; nmB_el h1 fun p e2 => isC_el h fun g l e3 h => is1_el (and_t h).2 fun a e4 h4 => attB_el h4 fun q q' e5 => k p g q q' r (by rw [e1, e2, e3, e4, e5]) (and_t h).1

structure LenFn (cx : Cx) : Prop where
  ok : ∃ fd b, HandOk cx 145 fd b ["self"] ∧ fd.scope.isGenerator = false ∧ retB lenE b = true ∧ fd.code = .ref 144 ∧ fd.scope.names.lookup ("sum" : Str) = some .globalImplicit
  tab : TabIn cx 144 140
  top : GenTop cx
  sum : cx.mg "sum" = none ∧ cx.mb "sum" = some (.builtin "sum")
  len : cx.mg "len" = none ∧ cx.mb "len" = some (.builtin "len")

/-! the parts of the own list -/
theorem lensOf_append (a b : List (List Nat × List Nat)) : lensOf (a ++ b) = lensOf a + lensOf b := by
  induction a with
  | nil => exact (Nat.zero_add _).symm
  | cons p a ih => exact (congrArg (p.1.length + p.2.length + ·) ih).trans (Nat.add_assoc ..).symm
noncomputable def lenAt (ps : List (List Nat × List Nat)) (j : Nat) : Int := (lensOf ps[j]?.toList : Nat)
theorem lensOf_up (ps : List (List Nat × List Nat)) (i : Nat) : lensOf (ps.take (i + 1)) = lensOf (ps.take i) + lensOf ps[i]?.toList := by rw [List.take_add_one, lensOf_append]
theorem sum_lens (a : Int) (ps : List (List Nat × List Nat)) (i : Nat) : sumFrom a (lenAt ps) i = a + (lensOf (ps.take i) : Nat) := by
  induction i with
  | zero => exact (Int.add_zero a).symm
  | succ i ih => rw [sumFrom, ih, lensOf_up, Int.natCast_add, Int.add_assoc]; rfl
theorem lensOf_take (ps : List (List Nat × List Nat)) (i : Nat) : lensOf (ps.take i) ≤ lensOf ps := by
  have := lensOf_append (ps.take i) (ps.drop i)
  rw [List.take_append_drop] at this
  exact this ▸ Nat.le_add_right _ _
theorem in_long {i : Int} (h : 0 ≤ i) (h' : i ≤ 200000) : InLong i := ⟨Int.le_trans (by decide) h, Int.lt_of_le_of_lt h' (by decide)⟩
theorem lenAt_le {ps : List (List Nat × List Nat)} (h : lensOf ps ≤ 8192) (j : Nat) : lensOf ps[j]?.toList ≤ 8192 := Nat.le_trans (Nat.le_trans (Nat.le_add_left _ _) (Nat.le_of_eq (lensOf_up ps j).symm)) (Nat.le_trans (lensOf_take ps _) h)
theorem lenAt_long {ps : List (List Nat × List Nat)} (h : lensOf ps ≤ 8192) (j : Nat) : InLong (lenAt ps j) := in_long (Int.natCast_nonneg _) (Int.ofNat_le.mpr (Nat.le_trans (lenAt_le h j) (by decide)))
theorem sum_long {ps : List (List Nat × List Nat)} {a : Int} (h : lensOf ps ≤ 8192) (h0 : 0 ≤ a) (h1 : a ≤ 100003) (j : Nat) : InLong (sumFrom a (lenAt ps) j) := by
  rw [sum_lens]
  exact in_long (Int.add_nonneg h0 (Int.natCast_nonneg _)) (Int.add_le_add h1 (Int.ofNat_le.mpr (Nat.le_trans (lensOf_take ps j) (Nat.le_trans h (by decide : 8192 ≤ 99997)))))

section
variable {cx : Cx} {θ : Th} {X ρ ρ' : List Addr} {H H' : AH} {s s' s'' : Shared} {A : Around} {v : AV} {x y z : Value} {E : Value → Shared → Prop} {fd : FuncData} {b : List Stmt} {ps : List Str}

theorem partOf_out {o : AO} {p : List Nat × List Nat} (h : partOf o = some p) : o = .tup [.str p.1, .str p.2] := by
  cases o with
  | tup l => cases l with
    | nil => exact no_el h
    | cons a r => cases a with
      | str x => cases r with
        | nil => exact no_el h
        | cons b r => cases b with
          | str y => cases r with
            | nil => exact Option.some.inj h ▸ rfl
            | cons _ _ => exact no_el h
          | _ => exact no_el h
      | _ => exact no_el h
  | _ => exact no_el h
theorem part_at (S : St cx θ ρ H s) {i : Nat} {y : Value} {p : List Nat × List Nat} {o : AO} (hx : VRel θ ρ (.ref i) y) (ho : H.get i = some o) (h : partOf o = some p) : ∃ (a : Addr) (t u : Tok) (n : Nat), y = .ref a ∧ a ∈ ρ ∧ s.heap.get? a = some { cls := .type "tuple", data := .seq #[.str (θ.tx p.1) t, .str (θ.tx p.2) u] n } := by
  obtain rfl := partOf_out h
  obtain ⟨a, ha, rfl⟩ := hx
  obtain ⟨_, hob, ⟨_⟩, n, rfl, hw⟩ := S.getO ha ho
  cases hw with
  | cons c1 c2 => cases c2 with
    | cons c2 c3 =>
      cases c3
      obtain ⟨t, rfl⟩ := c1
      obtain ⟨u, rfl⟩ := c2
      exact ⟨a, t, u, n, rfl, List.mem_of_getElem? ha, hob⟩
theorem parts_at (S : St cx θ ρ H s) {xs : List AV} {vs : List Value} (h : All2 (VRel θ ρ) xs vs) : ∀ {qs : List (List Nat × List Nat)}, partsOf H xs = some qs → qs.length = vs.length ∧
    ∀ (j : Nat) (p : List Nat × List Nat), qs[j]? = some p → ∃ (a : Addr) (t u : Tok) (n : Nat), vs[j]? = some (Value.ref a) ∧ a ∈ ρ ∧ s.heap.get? a = some { cls := .type "tuple", data := .seq #[.str (θ.tx p.1) t, .str (θ.tx p.2) u] n } := by
  induction h with
  | nil => exact fun e => Option.some.inj e ▸ ⟨rfl, fun j p e => no_el e⟩
  | @cons x y xs ys hx ht ih =>
    intro qs e
    cases x with
    | ref i =>
      refine ob_el e fun o ho e => ob_el e fun p h1 e => ob_el e fun qs' h2 e => ?_
      obtain rfl := Option.some.inj e
      obtain ⟨hl, hr⟩ := ih h2
      refine ⟨congrArg (· + 1) hl, fun j q hj => ?_⟩
      cases j with
      | zero =>
        obtain rfl := Option.some.inj hj
        obtain ⟨a, t, u, n, h3, h4⟩ := part_at S hx ho h1
        exact ⟨a, t, u, n, congrArg some h3, h4⟩
      | succ j => exact hr j q hj
    | _ => exact no_el e

/-- len(x) of a name that holds a text -/
theorem ev_len {env : Env} {x : Str} {t : Str} {tk : Tok} {m : Str → Option Value} {p q r : Pos} {Q : Value → Shared → Prop} (C : COk cx) (hl : cx.mg "len" = none ∧ cx.mb "len" = some (.builtin "len")) (hk : env.scope.kind = .function) (hlen : env.kindOf "len" = some .globalImplicit) (hg : env.globals = mainGlobals) (hb : env.builtins = builtinsNs)
    (hK : ∀ b o, cx.h₀.get? b = some o → s.heap.get? b = some o) (hx : env.kindOf x = some .local) (hns : s.heap.Ns env.locals m) (hv : m x = some (.str t tk)) (hd : (x == ("__debug__" : Str)) = false) (hfit : t.length ≤ 8192)
    (h : ∀ s' tk', Keeps s s' → Q (.int t.length tk') s') : Tri cx A (eval (.Call (.Name "len" p) [.Name x q] [] r) env) s Q := by
  refine wpAny_Call_ofName (env_builtin C hk hlen hg hb hK (by decide) hl.1 hl.2 ?_)
  refine callWith_at rfl (fun M h _ => ⟨.machine, .inr (.inl rfl), Looks.of_pure rfl⟩) ?_
  refine wpAny_items_cons (wpAny_Name (wpAny_loadName_local hk hx hns hv ?_) hd) rfl
  refine wpAny_items_nil ⟨C.K.keeps hK, ?_⟩
  exact P.len_str (nge63 hfit) (h _ _ ⟨s.heap, _, rfl, fun _ _ e => e⟩)

theorem Keeps.heap {s s' : Shared} (k : Keeps s s') : ∀ b o, s.heap.get? b = some o → s'.heap.get? b = some o := by
  obtain ⟨h', tk, rfl, hk⟩ := k
  exact hk
theorem keeps_trans {s s' s'' : Shared} (a : Keeps s s') (b : Keeps s' s'') : Keeps s s'' := by
  obtain ⟨h', tk, rfl, hk⟩ := a
  obtain ⟨h'', tk', rfl, hk'⟩ := b
  exact ⟨h'', tk', rfl, fun b o e => hk' b o (hk b o e)⟩

/-- what a generator's walk leaves -/
theorem St.moved (S : St cx θ ρ H s) {WR : List Addr} {GG : Array GenState → Array GenState → Prop} (hm : Moved WR GG s s') (hz : s.heap.objs.size ≤ s'.heap.objs.size) {n : Nat} (hn : cx.h₁.objs.size ≤ n) (hρ : ∀ a ∈ ρ, a < n) (hw : ∀ b ∈ WR, n ≤ b) (hg : AllBare s'.gens) :
    St cx θ ρ H s' ∧ Lk cx WR ρ s ρ s' := by
  refine ⟨S.but (Y := (· ∈ WR)) (fun a ha => ⟨fun m => Nat.lt_irrefl _ (Nat.lt_of_lt_of_le (hρ a m) (hw a ha)), Nat.le_trans hn (hw a ha)⟩) (fun b o hb e => hm.heap b o hb e) hg hz, ⟨⟨[], (List.append_nil _).symm, fun _ m => nomatch m⟩, fun b o e hb _ => hm.heap b o (fun z => hb (List.mem_append_left _ z)) e, hm.os, hz⟩⟩

theorem tup_facts (S : St cx θ ρ H s) {xs : List AV} {qs : List (List Nat × List Nat)} {vs : Array Value} (e : partsOf H xs = some qs) (h : All2 (VRel θ ρ) xs vs.toList) :
    qs.length = vs.size ∧ ∀ j, j < vs.size → (vs[j]? = some (.ref (tupAt vs j)) ∧ cx.h₁.objs.size ≤ tupAt vs j ∧ s.heap.IsTuple (tupAt vs j) (valsAt s.heap (tupAt vs j))) ∧ ∃ p t u, qs[j]? = some p ∧ valsAt s.heap (tupAt vs j) = #[.str (θ.tx p.1) t, .str (θ.tx p.2) u] := by
  obtain ⟨hl, hr⟩ := parts_at S h e
  have hl : qs.length = vs.size := hl
  refine ⟨hl, fun j hj => ?_⟩
  obtain ⟨p, hp⟩ : ∃ p, qs[j]? = some p := ⟨_, List.getElem?_eq_getElem (hl ▸ hj)⟩
  obtain ⟨a, t, u, n, h1, h2, h3⟩ := hr j p hp
  rw [Array.getElem?_toList] at h1
  have ha : tupAt vs j = a := by unfold tupAt; rw [h1]
  have hv : valsAt s.heap a = #[.str (θ.tx p.1) t, .str (θ.tx p.2) u] := by unfold valsAt; rw [h3]
  rw [ha, hv]
  exact ⟨⟨h1, S.old a h2, _, h3, rfl, _, rfl⟩, p, t, u, hp, rfl⟩

theorem okLen_out (O : θ.Ok) {a : AI} {i : Int} (h : okLen a = true) (ha : AIs θ a i) : 0 ≤ i ∧ i ≤ 100003 := by
  cases a with
  | lit j => cases j with
    | ofNat n => exact (show i = (n : Int) from ha) ▸ ⟨Int.natCast_nonneg n, Int.ofNat_le.mpr (Nat.le_trans (ble_t h) (by decide))⟩
    | _ => exact nomatch h
  | hof j => cases j with
    | ofNat n => exact (show i = ((n + θ.hd : Nat) : Int) from ha) ▸ ⟨Int.natCast_nonneg _, Int.ofNat_le.mpr (Nat.add_le_add (ble_t h) (Nat.le_of_lt_succ O.hd))⟩
    | _ => exact nomatch h
  | _ => exact nomatch h
theorem accInit_out {d : Nat} {n : AI} (h : accInit H d = some n) : ∃ es, dctOf H d = some es ∧ field initAt es = some (.int n) := by
  refine ob_el h fun es hes h => ⟨es, hes, ?_⟩
  cases hf : field initAt es with
  | none => rw [hf] at h; exact no_el h
  | some u =>
    rw [hf] at h
    cases u with
    | int m => exact congrArg (fun x => some (AV.int x)) (Option.some.inj h)
    | _ => exact no_el h
theorem pair_inj {α : Type} {a b c d : α} (h : (#[a, b] : Array α) = #[c, d]) : a = c ∧ b = d := by cases h; exact ⟨rfl, rfl⟩

/-- one turn of the sum's generator -/
theorem len_elt (C : COk cx) (LF : LenFn cx) {g : Str} {sc : Scope} {a₀ L C' : Addr} {code : Value} {qs : List (List Nat × List Nat)} {i : Nat} {p : List Nat × List Nat} {t u : Tok} {m : Str → Option Value} {p1 p2 p3 p4 p5 p6 p7 : Pos} (G : GenSc "len" sc) (hg : fd.globals = mainGlobals) (hK : ∀ b o, cx.h₀.get? b = some o → s.heap.get? b = some o)
    (hp : qs[i]? = some p) (h1 : lensOf qs ≤ 8192) (hn : s.heap.Ns C' m) (ha : m "fws" = some (.str (θ.tx p.1) t)) (hb : m "part" = some (.str (θ.tx p.2) u)) :
    Tri cx A (eval (.BinOp (.Call (.Name "len" p1) [.Name "fws" p2] [] p3) .Add (.Call (.Name "len" p4) [.Name "part" p5] [] p6) p7) (genEnv sc [] C' code builtinsNs (callEnv fd L a₀))) s fun y s₃ => (∃ t, y = Value.int (lenAt qs i) t) ∧ Keeps s s₃ := by
  have hli : lensOf qs[i]?.toList = p.1.length + p.2.length := by rw [hp]; rfl
  have hle := hli ▸ lenAt_le h1 i
  refine wpAny_BinOp (ev_len C LF.len G.kind G.lg hg rfl hK G.la hn ha (by decide) (by rw [tx_len]; exact Nat.le_trans (Nat.le_add_right _ _) hle) fun s' tk' ks => ?_)
  refine ev_len C LF.len G.kind G.lg hg rfl (fun b o q => Keeps.heap ks b o (hK b o q)) G.lb (hn.keeps (Keeps.heap ks)) hb (by decide) (by rw [tx_len]; exact Nat.le_trans (Nat.le_add_left _ _) hle) fun s'' tk'' ks' => ?_
  refine PySem.P.add_int ⟨⟨s''.toks, ?_⟩, keeps_trans ks (keeps_trans ks' ⟨s''.heap, _, rfl, fun _ _ e => e⟩)⟩
  rw [tx_len, tx_len, lenAt, hli]; rfl

theorem acc_len (O : θ.Ok) (C : COk cx) (AK : AccOk cx.K) (QO : ClsOk cx.K 178) (MO : MethOk cx.K) (LF : LenFn cx) {k d : Nat} {xs : List AV} {r : AI} (hA : AOk A 2) (S : St cx θ ρ H s) (hv : VRel θ ρ (.ref k) x) (hg : H.get k = some (.acc d xs)) (e : accLen H d xs = some r) :
    Tri cx A (call (.ref 145) [x] []) s (Res cx θ ρ s H (.int r)) := by
  refine ob_el e fun n hn e => ob_el e fun qs hqs e => cnd_el e fun hck e => ?_
  have h1 := ble_t (and_t (and_t hck).1).2
  obtain ⟨es, hes, hfield⟩ := accInit_out hn
  obtain ⟨ax, hax, rfl⟩ := hv
  obtain ⟨_, hob, da, vs, m, hda, rfl, hr⟩ := S.getO hax hg
  obtain ⟨_, hod, ds, nd, rfl, hent⟩ := S.getO hda (dct_out hes)
  obtain ⟨_, hyv, iv, tv, rfl, hiv⟩ := ent_get (nm := "_initial_size") rfl hent hfield
  obtain ⟨hi0, hi1⟩ := okLen_out O (and_t (and_t hck).1).1 hiv
  have hres := aadd_ok e hiv (show AIs θ (.lit (.ofNat (lensOf qs))) ((lensOf qs : Nat) : Int) from rfl)
  obtain ⟨fd, b, O1, hgen, hb, hcode, hsum⟩ := LF.ok
  refine retB_el hb fun _ p eb he => lenE_el he fun p1 _ q1 q2 r1 ee hge => genB_el hge fun _ pa pb kt pt ps scope pos eg hel G => lenElt_el hel fun u1 u2 u3 w1 w2 w3 bp el => ?_
  subst el eg ee eb
  clear hb he hge hel hck hn e
  -- the call
  refine enter C O1 hgen (hA.le (by decide)) S rfl fun h₀ tk hns hk hsz S₁ => ?_
  have hax1 := S.old ax (List.mem_of_getElem? hax)
  have hself : fd.scope.names.lookup ("self" : Str) = some .local := O1.loc _ (.head _)
  obtain ⟨hql, hT⟩ := tup_facts S₁ hqs hr
  refine ks_wpAt_execs_cons (ks_wpAt_Return_some (_root_.PySem.wpAt_of_wpAny ?_))
  refine wpAny_Call_ofName (env_builtin C O1.kind hsum O1.glob O1.blt S₁.base (by decide) LF.sum.1 LF.sum.2 ?_)
  refine callWith_at rfl (fun M h _ => ⟨.machine, .inr (.inl rfl), Looks.of_pure rfl⟩) ?_
  refine wpAny_items_cons (gen_self (F := fun i y => ∃ t, y = .int (lenAt qs i) t) C LF.top AK LF.tab ((AOk.deeper (n := 1) hA _).le (by decide)) O1.kind hself O1.glob O1.blt hcode G S₁ hns rfl (hk _ _ hob) hax1 (fun j hj => ?_) (fun A' E' i va vb u m₂ C' code hA'' hD hU hi hval hn₂ hma hmb hK => ?_) fun ga s₅ FP WR GG P' ST S₅ l₅ hx₅ W hPF hST hty hFP hga hWR hGG => ?_) rfl
  · obtain ⟨⟨a1, a2, a3⟩, p, t, u, a4, a5⟩ := hT j hj
    exact ⟨a1, a2, a3, _, _, a5⟩
  · obtain ⟨_, p, t, u', hp, hvs⟩ := hT i hi
    obtain ⟨rfl, rfl⟩ := pair_inj (hval.trans hvs)
    exact wpAny_mono (len_elt (g := "len") C LF G O1.glob hK hp h1 hn₂ hma hmb) (fun _ _ q => q) fun _ _ q => q.elim
  -- the start
  have hPne : ∀ b, cx.h₁.objs.size ≤ b → b ≠ 140 := fun b hb z => Nat.lt_irrefl _ (Nat.lt_of_lt_of_le (S.oldk.t 140 LF.tab.mem).1 (z ▸ hb))
  have hk₅ : ∀ b o, cx.h₁.objs.size ≤ b → s.heap.get? b = some o → s₅.heap.get? b = some o := fun b o hb q => hx₅ b o (hPne b hb) (hk b o q)
  refine wpAny_items_cons ?_ rfl
  rw [arm_eval_Attribute, base_of (o := .Name "self" q1) rfl]
  refine wpAny_bind (wpAny_Name (wpAny_loadName_local O1.kind hself (hns.at' fun o q => hx₅ _ o (hPne _ S.size) q) rfl (wpAny_bind (wpAny_standAt (wpAny_bind (wpAny_holding ?_))))))
  refine acc_att (C.K.keeps S₅.base) AK QO MO.aga MO.agt (hk₅ _ _ hax1 hob) (hk₅ _ _ (S.old _ (List.mem_of_getElem? hda)) hod) (List.mem_of_getElem? (i := initAt) rfl) hyv rfl ?_
  refine wpAny_bind (wpAny_letTemporaryGo (wpAny_pure ?_))
  refine wpAny_items_nil ⟨C.K.keeps S₅.base, Tri.size ?_⟩
  -- the sum
  refine call_sum2 (x := .ref ga) (in_long hi0 (Int.le_trans hi1 (by decide))) (W.in4_1.self 0 _ _ _ (W.frame 0 s₅ s₅.heap (s₅.toks + 1) hST (Nat.le_succ _) fun _ _ _ e => e) ⟨ga, FP, WR, GG, vs.size, P', ST, lenAt qs, rfl, W.in4_1, W.frame 0 s₅ s₅.heap (s₅.toks + 1) hST (Nat.le_succ _) fun _ _ _ e => e, hFP, fun i v hv => hPF i v hv, fun j hj => ⟨lenAt_long h1 j, sum_long h1 hi0 hi1 _⟩, fun s' t' hm' hz' => ?_⟩)
  have l₆ : Lk cx [] ρ s₅ ρ { s₅ with toks := s₅.toks + 1 } := .same rfl rfl
  obtain ⟨S₇, l₇⟩ := St.moved (s := { s₅ with toks := s₅.toks + 1 }) (S₅.same rfl rfl) hm' hz' (n := s.heap.objs.size) S.size (fun a ha => S.lt a ha) (fun b hb => Nat.le_trans hsz (hWR b hb)) (hGG _ _ S₅.bare hm'.gens)
  have l₀ : Lk cx [] ρ s ρ { s with heap := h₀, toks := tk } := .of_all hk rfl hsz
  refine ⟨ρ, (((l₀.trans (l₅.trans l₆)).wide0).trans l₇).less fun b hb => .inr (Nat.le_trans hsz (hWR b hb)), S₇, _, t', rfl, ?_⟩
  rw [sum_lens, List.take_of_length_le (Nat.le_of_eq hql)]
  exact hres
end
end Mine
namespace Mine
open PySem PySem.W PyProof.Rows PySem.Calls

/-- EMPTYSTRING.join(a) -/
noncomputable def joinB (a : Expr → Bool) (e : Expr) : Bool := isCl e fun f as q => is1 as a && isAttribute f fun v m p => nmB "EMPTYSTRING" v && (se m "join" && p.endLine == q.line)
theorem joinB_el {a : Expr → Bool} {e : Expr} {P : Prop} (h : joinB a e = true) (g : ∀ p1 p2 p3 x, e = .Call (.Attribute (.Name "EMPTYSTRING" p1) "join" p2) [x] [] p3 → (p2.endLine == p3.line) = true → a x = true → P) : P :=
  isCl_el h fun f as p3 e1 h => have ⟨h1, h⟩ := and_t h; is1_el h1 fun x e2 hx => isAttribute_el h fun v m p2 e3 h => have ⟨h2, h⟩ := and_t h; nmB_el h2 fun p1 e4 => g p1 p2 p3 x (by rw [e1, e2, e3, e4, se_iff.mp (and_t h).1]) (and_t h).2 hx
structure StrFn (cx : Cx) : Prop where
  ok : ∃ fd b, HandOk cx 152 fd b ["self"] ∧ fd.scope.isGenerator = false ∧ retB (joinB (genB (joinB tup2B) "EMPTYSTRING")) b = true ∧ fd.code = .ref 151 ∧ fd.scope.names.lookup ("EMPTYSTRING" : Str) = some .globalImplicit
  tab : TabIn cx 151 147
  top : GenTop cx
  es : ∃ t, cx.mg "EMPTYSTRING" = some (.str ⟨#[]⟩ t)

theorem joinA_nil (ys : List (List Nat)) : joinA [] ys = ys.flatten := by
  induction ys with
  | nil => rfl
  | cons y r ih => cases r with
    | nil => exact (List.append_nil y).symm
    | cons z r =>
      show y ++ [] ++ joinA [] (z :: r) = _
      rw [ih, List.append_nil]; rfl
theorem glued_flat (ps : List (List Nat × List Nat)) : glued ps = (ps.map fun p => p.1 ++ p.2).flatten := by
  induction ps with
  | nil => rfl
  | cons p r ih => exact congrArg (p.1 ++ p.2 ++ ·) ih

section
variable {cx : Cx} {θ : Th} {X ρ ρ' : List Addr} {H H' : AH} {s s' s'' : Shared} {A : Around} {v : AV} {x y z : Value} {E : Value → Shared → Prop} {fd : FuncData} {b : List Stmt} {ps : List Str}

theorem ev_join {env : Env} {te : Tok} {a : Expr} {p1 p2 p3 : Pos} {Q : Value → Shared → Prop} (C : COk cx) (he : cx.mg "EMPTYSTRING" = some (.str ⟨#[]⟩ te)) (hk : env.scope.kind = .function) (hn : env.kindOf "EMPTYSTRING" = some .globalImplicit) (hg : env.globals = mainGlobals)
    (hK : ∀ b o, cx.h₀.get? b = some o → s.heap.get? b = some o) (hpos : (p2.endLine == p3.line) = true) (hst : starEach [a] env = [(false, eval a env)])
    (h : Tri cx A (eval a env) s fun y s₁ => (∀ b o, cx.h₀.get? b = some o → s₁.heap.get? b = some o) ∧ Tri cx A (call (.builtin "str.join") [.str ⟨#[]⟩ te, y]) s₁ Q) :
    Tri cx A (eval (.Call (.Attribute (.Name "EMPTYSTRING" p1) "join" p2) [a] [] p3) env) s Q := by
  rw [arm_eval_Call, base_of (o := .Name "EMPTYSTRING" p1) rfl]
  refine wpAny_bind (env_global C hk hn hg hK (by decide) he (wpAny_bind (wpAny_standAt ?_)))
  unfold methodCall
  have hform : methodCallForm (List.length [a] + List.length ([] : List Keyword)) (backTo p3 (starEach [a] env)) (backToKw p3 (keywordEach [] env)) = true := by rw [hst]; rfl
  rw [hform]
  refine wpAny_bind (wpAny_holding (GM.join ?_))
  refine wpAny_bind (wpAny_of_eq (a := p3) (by unfold methodCallPos; rw [hpos]; rfl) ?_)
  refine callWith_at (by rw [hst]; rfl) (fun M h _ => ⟨.machine, .inr (.inl rfl), Looks.of_pure rfl⟩) ?_
  refine wpAny_items_cons (Tri.mono h fun y s₁ ⟨h1, h2⟩ => wpAny_items_nil (pos := p3) (env := env) ⟨C.K.keeps h1, h2⟩) hst

theorem tx_nil : θ.tx [] = (⟨#[]⟩ : Str) := rfl
theorem join_ok {ys : List (List Nat)} {texts : List Str} (ht : texts = ys.map θ.tx) (h : ys.flatten.length ≤ 4096) : JoinOk ⟨#[]⟩ texts = true ∧ Txt.join ⟨#[]⟩ texts = θ.tx ys.flatten := by
  subst ht
  constructor
  · unfold JoinOk Builtin.Str.tooLong
    have h3 := joinA_len [] ys
    rw [joinA_nil] at h3
    rw [List.foldl_toArray' (h := rfl), show (⟨#[]⟩ : Str).length = 0 from rfl, join_fold, Nat.zero_add]
    exact congrArg not (decide_eq_false (Nat.not_lt.mpr (le4 (Nat.le_trans h3 h))))
  · show Builtin.Str.glued (⟨#[]⟩ : Str) (ys.map θ.tx) = _
    rw [StrLaws.glued_eq_join, ← tx_nil (θ := θ), join_tx, joinA_nil]

noncomputable def txtAt (qs : List (List Nat × List Nat)) (j : Nat) : List Nat := match qs[j]? with
  | some p => p.1 ++ p.2
  | none => []
theorem txtAt_of {qs : List (List Nat × List Nat)} {j : Nat} {p : List Nat × List Nat} (h : qs[j]? = some p) : txtAt qs j = p.1 ++ p.2 := by unfold txtAt; rw [h]
theorem glued_le {qs : List (List Nat × List Nat)} : ∀ {j : Nat} {p : List Nat × List Nat}, qs[j]? = some p → (p.1 ++ p.2).length ≤ (glued qs).length := by
  induction qs with
  | nil => exact fun e => no_el e
  | cons q r ih =>
    intro j p e
    refine Nat.le_trans ?_ (Nat.le_of_eq (show (q.1 ++ q.2).length + (glued r).length = (glued (q :: r)).length from List.length_append.symm))
    cases j with
    | zero => exact Option.some.inj e ▸ Nat.le_add_right _ _
    | succ j => exact Nat.le_trans (ih e) (Nat.le_add_left _ _)

/-- one turn of the text's generator -/
theorem str_elt (C : COk cx) {te : Tok} (hte : cx.mg "EMPTYSTRING" = some (.str ⟨#[]⟩ te)) {sc : Scope} {a₀ L C' : Addr} {code : Value} {qs : List (List Nat × List Nat)} {i kt : Nat} {p : List Nat × List Nat} {t u : Tok} {m : Str → Option Value} {p1 p2 p3 p4 p5 p6 : Pos} (G : GenSc "EMPTYSTRING" sc) (hg : fd.globals = mainGlobals) (hK : ∀ b o, cx.h₀.get? b = some o → s.heap.get? b = some o)
    (hpos : (p2.endLine == p3.line) = true) (hp : qs[i]? = some p) (h1 : (glued qs).length ≤ 4096) (hn : s.heap.Ns C' m) (ha : m "fws" = some (.str (θ.tx p.1) t)) (hb : m "part" = some (.str (θ.tx p.2) u)) :
    Tri cx A (eval (.Call (.Attribute (.Name "EMPTYSTRING" p1) "join" p2) [.Tuple [.Name "fws" p4, .Name "part" p5] kt p6] [] p3) (genEnv sc [] C' code builtinsNs (callEnv fd L a₀))) s fun y s₃ => (∃ t, y = Value.str (θ.tx (txtAt qs i)) t) ∧ Keeps s s₃ := by
  refine ev_join C hte G.kind G.lg hg hK hpos rfl (wpAny_Tuple_spliced ?_)
  refine wpAny_items_cons (wpAny_Name (wpAny_loadName_local G.kind G.la hn ha ?_) (by decide)) rfl
  refine wpAny_items_cons (wpAny_Name (wpAny_loadName_local G.kind G.lb hn hb ?_) (by decide)) rfl
  refine wpAny_items_nil ⟨by show 2 ≤ sizeLine; decide, fun b o q => Heap.get?_push_of_some _ (hK b o q), ?_⟩
  have e0 : p.1 ++ p.2 = [p.1, p.2].flatten := by rw [List.flatten_cons, List.flatten_cons, List.flatten_nil, List.append_nil]
  obtain ⟨ok1, ok2⟩ := join_ok (θ := θ) (ys := [p.1, p.2]) (texts := [θ.tx p.1, θ.tx p.2]) rfl (e0 ▸ Nat.le_trans (glued_le hp) h1)
  have ok1 := not_t ok1
  refine call_meets F.slot_str_join (typeIs_str _ _ _) F.entry_str_join (F.args_str_join_2 _ _) (meets_str_join_tuple _ te s.heap.objs.size [(θ.tx p.1, t), (θ.tx p.2, u)] ok1) ⟨⟨_, 0, Heap.get?_push_size _ rfl, rfl, rfl⟩, ?_⟩
  exact post_join [(θ.tx p.1, t), (θ.tx p.2, u)] ⟨joinFit_length ok1, fun t' k => ⟨⟨t', congrArg (fun x => Value.str x t') (ok2.trans (by rw [txtAt_of hp, e0]))⟩, _, k, rfl, fun b o q => Heap.get?_push_of_some _ q⟩⟩

theorem texts_eq {qs : List (List Nat × List Nat)} {l : List (Str × Tok)} (hl : l.length = qs.length) (h : ∀ j q, l[j]? = some q → ∃ t, Value.str q.1 q.2 = .str (θ.tx (txtAt qs j)) t) : l.map (·.1) = (qs.map fun p => p.1 ++ p.2).map θ.tx := by
  apply List.ext_getElem?
  intro j
  rw [List.getElem?_map, List.getElem?_map, List.getElem?_map]
  cases hq : l[j]? with
  | none => rw [List.getElem?_eq_none (hl ▸ List.getElem?_eq_none_iff.mp hq)]; rfl
  | some q =>
    obtain ⟨p, hp⟩ : ∃ p, qs[j]? = some p := ⟨_, List.getElem?_eq_getElem (hl ▸ (List.getElem?_eq_some_iff.mp hq).1)⟩
    obtain ⟨t, ht⟩ := h j q hq
    rw [hp]
    exact congrArg some ((Value.str.inj ht).1.trans (congrArg θ.tx (txtAt_of hp)))

theorem acc_str (C : COk cx) (AK : AccOk cx.K) (SF : StrFn cx) {k d : Nat} {xs : List AV} {r : List Nat} (hA : AOk A 2) (S : St cx θ ρ H s) (hv : VRel θ ρ (.ref k) x) (hg : H.get k = some (.acc d xs)) (e : accStr H xs = some r) :
    Tri cx A (call (.ref 152) [x] []) s (Res cx θ ρ s H (.str r)) := by
  refine ob_el e fun qs hqs e => cnd_el e fun hck e => ?_
  obtain rfl := Option.some.inj e
  have h1 := ble_t (and_t hck).1
  have h2 := ble_t (and_t hck).2
  obtain ⟨ax, hax, rfl⟩ := hv
  obtain ⟨_, hob, da, vs, m, hda, rfl, hr⟩ := S.getO hax hg
  obtain ⟨te, hte⟩ := SF.es
  obtain ⟨fd, b, O1, hgen, hb, hcode, hes⟩ := SF.ok
  refine retB_el hb fun _ p eb he => joinB_el he fun p1 p2 p3 _ ee hpos hge => genB_el hge fun _ pa pb kt pt ps scope pos eg hel G => joinB_el hel fun u1 u2 u3 _ eu hupos hue => tup2B_el hue fun w1 w2 w3 w4 ew => ?_
  subst ew eu eg ee eb
  clear hb he hge hel hue hck e
  -- the call
  refine enter C O1 hgen (hA.le (by decide)) S rfl fun h₀ tk hns hk hsz S₁ => ?_
  obtain ⟨hql, hT⟩ := tup_facts S₁ hqs hr
  refine ks_wpAt_execs_cons (ks_wpAt_Return_some (_root_.PySem.wpAt_of_wpAny (ev_join C hte O1.kind hes O1.glob S₁.base hpos rfl ?_)))
  refine gen_self (F := fun i y => ∃ t, y = .str (θ.tx (txtAt qs i)) t) C SF.top AK SF.tab ((AOk.deeper (n := 1) hA _).le (by decide)) O1.kind (O1.loc _ (.head _)) O1.glob O1.blt hcode G S₁ hns rfl (hk _ _ hob) (S.old ax (List.mem_of_getElem? hax)) (fun j hj => ?_) (fun A' E' i va vb u m₂ C' code hA'' hD hU hi hval hn₂ hma hmb hK => ?_) fun ga s₅ FP WR GG P' ST S₅ l₅ hx₅ W hPF hST hty hFP hga hWR hGG => ?_
  · obtain ⟨⟨a1, a2, a3⟩, p, t, u, a4, a5⟩ := hT j hj
    exact ⟨a1, a2, a3, _, _, a5⟩
  · obtain ⟨_, p, t, u', hp, hvs⟩ := hT i hi
    obtain ⟨rfl, rfl⟩ := pair_inj (hval.trans hvs)
    exact wpAny_mono (str_elt C hte G O1.glob hK hupos hp h1 hn₂ hma hmb) (fun _ _ q => q) fun _ _ q => q.elim
  refine ⟨S₅.base, Tri.size ?_⟩
  refine SC.joinGen W.in4_2 hty hST hFP hga (fun i v hv => let ⟨t, h⟩ := hPF i v hv; ⟨_, t, h⟩) (fun s' l hm' hit => ?_) (le4 (hql ▸ h2))
  have hl := texts_eq ((List.length_map ..).symm.trans (hit.1.trans hql.symm)) fun j q hq => hPF j _ (hit.2 j (.str q.1 q.2) (List.getElem?_toArray.trans ((List.getElem?_map ..).trans (congrArg (Option.map fun p : Str × Tok => Value.str p.1 p.2) hq))))
  obtain ⟨ok1, ok2⟩ := join_ok (θ := θ) hl (by rw [← glued_flat]; exact h1)
  refine ⟨ok1, fun t' tk' hz' => ?_⟩
  obtain ⟨S₇, l₇⟩ := S₅.moved hm' hz' (n := s.heap.objs.size) S.size (fun a ha => S.lt a ha) (fun b hb => Nat.le_trans hsz (hWR b hb)) (hGG _ _ S₅.bare hm'.gens)
  have l₀ : Lk cx [] ρ s ρ { s with heap := h₀, toks := tk } := .of_all hk rfl hsz
  refine ⟨ρ, (((l₀.trans l₅).wide0).trans (l₇.trans (.same (s' := { s' with toks := tk' }) rfl rfl))).less fun b hb => .inr (Nat.le_trans hsz (hWR b hb)), S₇.same rfl rfl, t', ?_⟩
  rw [ok2, glued_flat]
end
end Mine
namespace Mine
open PySem PySem.W PyProof.Rows PySem.Calls

/-- len, truth, str of the own list -/
structure OwnOk (cx : Cx) : Prop where
  len : findIn cx.K (.ref 178) "__len__" = some (some (.ref 145))
  lenT : typeIn cx.K (.ref 145) = some (.type "function")
  bool : findIn cx.K (.ref 178) "__bool__" = some none
  str : findIn cx.K (.ref 178) "__str__" = some (some (.ref 152))
  strT : PySem.W.isFn cx.K (.ref 152) = true
  lf : LenFn cx
  sf : StrFn cx
  ao : AccOk cx.K
  qo : ClsOk cx.K 178
  po : ClsOk cx.K 94
  mo : MethOk cx.K

section
variable {cx : Cx} {θ : Th} {X ρ ρ' : List Addr} {H H' : AH} {s s' s'' : Shared} {A : Around} {v : AV} {x y z : Value} {E : Value → Shared → Prop}

theorem Res.toks {k : Nat} (h : Res cx θ ρ s H v x s') : Res cx θ ρ s H v x { s' with toks := k } := by
  obtain ⟨ρ', l, S, q⟩ := h
  exact ⟨ρ', l.trans (.same (s' := { s' with toks := k }) rfl rfl), S.same rfl rfl, q⟩

theorem accLen_rng (O : θ.Ok) {d : Nat} {xs : List AV} {r : AI} {i : Int} (e : accLen H d xs = some r) (h : AIs θ r i) : 0 ≤ i ∧ i ≤ 200000 := by
  refine ob_el e fun n hn e => ob_el e fun qs hqs e => cnd_el e fun hck e => ?_
  obtain ⟨hok, _⟩ := and_t hck
  obtain ⟨hok, hL⟩ := and_t hok
  cases n with
  | lit j => cases j with
    | ofNat m =>
      obtain rfl := Option.some.inj e
      exact (show i = ((m + lensOf qs : Nat) : Int) from h) ▸ ⟨Int.natCast_nonneg _, Int.ofNat_le.mpr (Nat.le_trans (Nat.add_le_add (ble_t hok) (ble_t hL)) (by decide))⟩
    | _ => exact nomatch hok
  | hof j => cases j with
    | ofNat m =>
      obtain rfl := Option.some.inj e
      exact (show i = ((m + lensOf qs + θ.hd : Nat) : Int) from h) ▸ ⟨Int.natCast_nonneg _, Int.ofNat_le.mpr (Nat.le_trans (Nat.add_le_add (Nat.add_le_add (ble_t hok) (ble_t hL)) (Nat.le_of_lt O.hd)) (by decide))⟩
    | _ => exact nomatch hok
  | _ => exact nomatch hok
theorem accLen_dct {d : Nat} {xs : List AV} {r : AI} (e : accLen H d xs = some r) : ∃ es, dctOf H d = some es := ob_el e fun _ hn _ => ob_el hn fun es hes _ => ⟨es, hes⟩

theorem acc_at {k d : Nat} {xs : List AV} {es : List (Nat × AV)} (S : St cx θ ρ H s) (hv : VRel θ ρ (.ref k) x) (hg : H.get k = some (.acc d xs)) (hes : dctOf H d = some es) :
    ∃ a vs m da ds nd, x = .ref a ∧ InstAt s.heap a { cls := .ref 178, dict := some da, data := .seq vs m } 178 (some (dictOf ds nd)) := by
  obtain ⟨a, ha, rfl⟩ := hv
  obtain ⟨o, hob, da, vs, m, hda, rfl, hr⟩ := S.getO ha hg
  obtain ⟨od, hod, ds, nd, rfl, hent⟩ := S.getO hda (dct_out hes)
  exact ⟨a, vs, m, da, ds, nd, rfl, hob, rfl, rfl, hod⟩

theorem accLen_int (O : θ.Ok) {d : Nat} {xs : List AV} {r : AI} (e : accLen H d xs = some r) {y : Value} (h : VRel θ ρ (.int r) y) : ∃ i t, y = .int i t ∧ AIs θ r i ∧ ¬ i < 0 ∧ ¬ i ≥ 2 ^ 63 := by
  obtain ⟨i, t, rfl, hi⟩ := h
  obtain ⟨h0, h1⟩ := accLen_rng O e hi
  exact ⟨i, t, rfl, hi, Int.not_lt.mpr h0, Int.not_le.mpr (Int.lt_of_le_of_lt h1 (by decide))⟩

theorem len_acc (O : θ.Ok) (C : COk cx) (W : OwnOk cx) {k d : Nat} {xs : List AV} {r : AI} (hA : AOk A 4) (S : St cx θ ρ H s) (hv : VRel θ ρ (.ref k) x) (hg : H.get k = some (.acc d xs)) (e : accLen H d xs = some r) :
    Tri cx A (call (.builtin "len") [x] []) s (Res cx θ ρ s H (.int r)) := by
  obtain ⟨es, hes⟩ := accLen_dct e
  obtain ⟨a, vs, m, da, ds, nd, rfl, I⟩ := acc_at S hv hg hes
  refine Calls.call_function_entry _root_.PySem.kind_len _root_.PySem.plain_len _root_.PySem.entry_len (_root_.PySem.args_len1 _) ?_
  unfold Builtin.«len»
  refine wpAny_bind (m := oneArg "len" _) (wpAny_pure ?_)
  refine wpAny_bind (m := callSpecial? (.ref a) (Str.ofString "__len__")) (special_fn (C.K.keeps S.base) I W.len W.lenT (wpAny_mono (acc_len O C W.ao W.qo W.mo W.lf (AOk.in1 (n := 2) (hA.le (by decide))) S hv hg e) (fun r s' hr => ?_) fun _ _ y => y))
  obtain ⟨ρ', l, S', hy⟩ := hr
  obtain ⟨n, u, rfl, hn, h0, h1⟩ := accLen_int O e hy
  refine wpAny_bind (wpAny_holding (wpAny_pure ?_))
  refine wpAny_bind (wpAny_letGo ?_)
  refine wp_no (c := n < 0) h0 (wp_no (c := n ≥ 2 ^ 63) h1 ?_)
  refine wpAny_bind (wpAny_mkInt (wpAny_pure ⟨_, rfl, ?_⟩))
  exact ⟨ρ', l.trans (.same (s' := { s' with toks := s'.toks + 1 }) rfl rfl), S'.same rfl rfl, n, _, rfl, hn⟩

theorem truth_acc (O : θ.Ok) (C : COk cx) (W : OwnOk cx) {k d : Nat} {xs : List AV} {r : AI} {b : Bool} (hA : AOk A 4) (S : St cx θ ρ H s) (hv : VRel θ ρ (.ref k) x) (hg : H.get k = some (.acc d xs)) (e : accLen H d xs = some r) (hb : truthI r = some b) :
    Tri cx A (truthy x) s fun b' => Aft cx θ [] ρ s H fun _ => b' = b := by
  obtain ⟨es, hes⟩ := accLen_dct e
  obtain ⟨a, vs, m, da, ds, nd, rfl, I⟩ := acc_at S hv hg hes
  have X := C.K.keeps S.base
  unfold truthy
  refine wpAny_bind (m := callSpecial? (.ref a) (Str.ofString "__bool__")) (wpAny_bind (wpAny_bind (I.type.here ((looks_findIn X W.bool).here (wpAny_pure ?_)))))
  refine wpAny_bind (wpAny_bind (I.type.here ((looks_findIn X W.len).here ?_)))
  refine wpAny_bind ?_
  show wpAny _ _ (runValue (.builtin "len" ⟨[.ref a], []⟩)) _ _ _
  refine wpAny_runValue (codeAny_builtin _root_.PySem.entry_len ?_)
  rw [Around.under_plainId _root_.PySem.plain_len _]
  unfold Builtin.«len»
  refine wpAny_bind (m := oneArg "len" _) (wpAny_pure ?_)
  refine wpAny_bind (m := callSpecial? (.ref a) (Str.ofString "__len__")) (special_fn X I W.len W.lenT (wpAny_mono (acc_len O C W.ao W.qo W.mo W.lf (AOk.in1 (n := 2) (hA.le (by decide))) S hv hg e) (fun r s' hr => ?_) fun _ _ y => y.elim))
  obtain ⟨ρ', l, S', hy⟩ := hr
  obtain ⟨n, u, rfl, hn, h0, h1⟩ := accLen_int O e hy
  refine wpAny_bind (wpAny_holding (wpAny_pure ?_))
  refine wpAny_bind (wpAny_letGo ?_)
  refine wp_no (c := n < 0) h0 (wp_no (c := n ≥ 2 ^ 63) h1 ?_)
  refine wpAny_bind (wpAny_mkInt (wpAny_pure ?_))
  refine wpAny_pure ⟨ρ', l.trans (.same (s' := { s' with toks := s'.toks + 1 }) rfl rfl), S'.same rfl rfl, ?_⟩
  cases r with
  | lit j => cases j with
    | ofNat q =>
      obtain rfl := Option.some.inj hb
      obtain rfl := (show n = Int.ofNat q from hn)
      cases q <;> rfl
    | _ => exact no_el hb
  | _ => exact no_el hb

theorem str_acc (C : COk cx) (W : OwnOk cx) {k d : Nat} {xs : List AV} {r : List Nat} {es : List (Nat × AV)} (hA : AOk A 4) (S : St cx θ ρ H s) (hv : VRel θ ρ (.ref k) x) (hg : H.get k = some (.acc d xs)) (hes : dctOf H d = some es) (e : accStr H xs = some r) :
    Tri cx A (call (.type "str") [x] []) s (Res cx θ ρ s H (.str r)) := by
  obtain ⟨a, vs, m, da, ds, nd, rfl, I⟩ := acc_at S hv hg hes
  have h2 : AOk A.in1.in1 2 := AOk.in1 (n := 2) (AOk.in1 (n := 3) hA)
  refine kso_call h2.units (C.K.keeps S.base) I W.str W.strT (wpAny_mono (acc_str C W.ao W.sf h2 S hv hg e) (fun r s' hr => ?_) fun _ _ y => y)
  obtain ⟨ρ', l, S', t, rfl⟩ := hr
  exact ⟨ρ', l, S', t, rfl⟩
end
end Mine
namespace Mine
open PySem PySem.W PyProof.Rows PySem.Calls

section
variable {cx : Cx} {θ : Th} {X ρ ρ' : List Addr} {H H' : AH} {s s' s'' : Shared} {A : Around} {v : AV} {x y z : Value} {E : Value → Shared → Prop}

theorem leaf_truth (O : θ.Ok) (C : COk cx) (W : OwnOk cx) {b : Bool} (hA : AOk A 8) (S : St cx θ ρ H s) (hv : VRel θ ρ v x) (e : truth H v = some b) : Tri cx A (truthy x) s fun b' => Aft cx θ [] ρ s H fun _ => b' = b := by
  cases v with
  | bool t => cases t with
    | lit _ =>
      obtain rfl := Option.some.inj e
      exact (show x = _ from hv) ▸ wpAny_pure (.here S rfl)
    | _ => exact no_el e
  | str l => exact cnd_el e fun hz e => Option.some.inj e ▸ truth_text S hv (ble_t hz)
  | ref k =>
    refine ob_el e fun o hg e => ?_
    cases o with
    | list _ => exact cnd_el e fun hz e => Option.some.inj e ▸ truth_lst S hv hg (ble_t hz)
    | acc _ _ => exact ob_el e fun n hn e => truth_acc O C W (hA.le (by decide)) S hv hg hn e
    | _ => exact no_el e
  | _ => exact no_el e

theorem lenV_ok (O : θ.Ok) (C : COk cx) (W : OwnOk cx) {u : AV} (hA : AOk A 8) (S : St cx θ ρ H s) (hu : VRel θ ρ u y) (e : lenV H u = some (v, H')) : Tri cx A (call (.builtin "len") [y] []) s (Res cx θ ρ s H' v) := by
  cases u with
  | str _ => exact cs2e (Q := fun v H' => Tri cx A (call (.builtin "len") [y] []) s (Res cx θ ρ s H' v)) e fun hz => len_text S hu (ble_t hz)
  | tabs => exact sm2e (Q := fun v H' => Tri cx A (call (.builtin "len") [y] []) s (Res cx θ ρ s H' v)) e (len_tabs O S hu)
  | ref k =>
    refine ob_el e fun o hg e => ?_
    cases o with
    | list _ => exact cs2e (Q := fun v H' => Tri cx A (call (.builtin "len") [y] []) s (Res cx θ ρ s H' v)) e fun hz => len_lst S hu hg (ble_t hz)
    | acc d xs =>
      change wi H (accLen H d xs) = _ at e
      cases hn : accLen H d xs with
      | none => rw [hn] at e; exact no_el e
      | some n =>
        rw [hn] at e
        exact sm2e (Q := fun v H' => Tri cx A (call (.builtin "len") [y] []) s (Res cx θ ρ s H' v)) e (len_acc O C W (hA.le (by decide)) S hu hg hn)
    | _ => exact no_el e
  | _ => exact no_el e
theorem ordV_ok {u : AV} (S : St cx θ ρ H s) (hu : VRel θ ρ u y) (e : ordV H u = some (v, H')) : Tri cx A (call (.builtin "ord") [y] []) s (Res cx θ ρ s H' v) := by
  cases u with
  | str l => cases l with
    | nil => exact no_el e
    | cons c r => cases r with
      | nil => exact cs2e (Q := fun v H' => Tri cx A (call (.builtin "ord") [y] []) s (Res cx θ ρ s H' v)) e fun hz => leaf_ord S hu hz
      | cons _ _ => exact no_el e
  | _ => exact no_el e
theorem chrV_ok {u : AV} (S : St cx θ ρ H s) (hu : VRel θ ρ u y) (e : chrV H u = some (v, H')) : Tri cx A (call (.builtin "chr") [y] []) s (Res cx θ ρ s H' v) := by
  cases u with
  | int a => cases a with
    | lit i => cases i with
      | ofNat c => exact cs2e (Q := fun v H' => Tri cx A (call (.builtin "chr") [y] []) s (Res cx θ ρ s H' v)) e fun hz => leaf_chr S hu hz
      | _ => exact no_el e
    | _ => exact no_el e
  | _ => exact no_el e
theorem strV_ok (C : COk cx) (W : OwnOk cx) {u : AV} (hA : AOk A 8) (S : St cx θ ρ H s) (hu : VRel θ ρ u y) (e : strV H u = some (v, H')) : Tri cx A (call (.type "str") [y] []) s (Res cx θ ρ s H' v) := by
  cases u with
  | ref k =>
    refine get_el (f := fun r => match r with | some (.acc d xs) => ob (dctOf H d) fun _ => ob (accStr H xs) fun x => some (AV.str x, H) | _ => none) e rfl fun o hg e => ?_
    cases o with
    | acc d xs => exact ob_el e fun es hes e => ob_el e fun r hr e => sm2e (Q := fun v H' => Tri cx A (call (.type "str") [y] []) s (Res cx θ ρ s H' v)) e (str_acc C W (hA.le (by decide)) S hu hg hes hr)
    | _ => exact no_el e
  | _ => exact no_el e
theorem leaf_bcall (O : θ.Ok) (C : COk cx) (W : OwnOk cx) {b : BF} {vs : List AV} {ys : List Value} (hA : AOk A 8) (S : St cx θ ρ H s) (hv : All2 (VRel θ ρ) vs ys) (e : builtinCall H b vs = some (v, H')) : Tri cx A (call (bfVal b) ys []) s (Res cx θ ρ s H' v) := by
  cases hv with
  | nil => exact no_el e
  | cons hu hr => cases hr with
    | cons _ _ => exact no_el e
    | nil => cases b with
      | len => exact lenV_ok O C W hA S hu e
      | ord => exact ordV_ok S hu e
      | chr => exact chrV_ok S hu e
      | str => exact strV_ok C W hA S hu e

theorem join_meth {l : List Nat} {vs : List AV} {ys : List Value} (S : St cx θ ρ H s) (ho : VRel θ ρ (.str l) x) (hv : All2 (VRel θ ρ) vs ys) (e : strJoin H l vs = some (v, H')) : Tri cx A (call (.builtin "str.join") (x :: ys) []) s (Res cx θ ρ s H' v) := by
  cases hv with
  | nil => exact no_el e
  | @cons u y us ys hu hr => cases u with
    | ref k => cases hr with
      | cons _ _ => exact no_el e
      | nil =>
        refine get_el (f := fun r => match r with | some (.list xs) => ob (isStrs xs) fun ys => cond (Nat.ble (joinA l ys).length 4096 && Nat.ble l.length 4096) (some (AV.str (joinA l ys), H)) none | _ => none) e rfl fun o hg e => ?_
        cases o with
        | list xs => exact ob_el e fun zs hs e => cs2e (Q := fun v H' => Tri cx A (call (.builtin "str.join") [x, y] []) s (Res cx θ ρ s H' v)) e fun hz => leaf_join S ho hu hg hs (ble_t (and_t hz).1) (ble_t (and_t hz).2)
        | _ => exact no_el e
    | _ => exact no_el e
theorem split_meth (O : θ.Ok) {l : List Nat} {vs : List AV} {ys : List Value} (S : St cx θ ρ H s) (ho : VRel θ ρ (.str l) x) (hv : All2 (VRel θ ρ) vs ys) (e : strSplit H l vs = some (v, H')) : Tri cx A (call (.builtin "str.split") (x :: ys) []) s (Res cx θ ρ s H' v) := by
  cases hv with
  | nil => exact no_el e
  | @cons u y us ys hu hr => cases u with
    | str sep => cases hr with
      | cons _ _ => exact no_el e
      | nil => exact cnd_el e fun hz e => leaf_split O S ho hu (and_t (and_t hz).1).1 ((or_t (and_t (and_t hz).1).2).imp nlb_iff.mp nlb_iff.mp) (ble_t (and_t hz).2) e
    | _ => exact no_el e
theorem index_meth (O : θ.Ok) {l : List Nat} {vs : List AV} {ys : List Value} (S : St cx θ ρ H s) (ho : VRel θ ρ (.str l) x) (hv : All2 (VRel θ ρ) vs ys) (e : strIndex H l vs = some (v, H')) : Tri cx A (call (.builtin "str.index") (x :: ys) []) s (Res cx θ ρ s H' v) := by
  cases hv with
  | nil => exact no_el e
  | @cons u y us ys hu hr => cases u with
    | str sep => cases sep with
      | nil => exact no_el e
      | cons c r => cases r with
        | cons _ _ => exact no_el e
        | nil => cases hr with
          | cons _ _ => exact no_el e
          | nil => exact cnd_el e fun hz e => ob_el e fun n hf e => sm2e (Q := fun v H' => Tri cx A (call (.builtin "str.index") [x, y] []) s (Res cx θ ρ s H' v)) e (leaf_index O S ho hu (and_t hz).1 (and_t hz).2 hf)
    | _ => exact no_el e
theorem str_meth (O : θ.Ok) {l : List Nat} {n : Me} {vs : List AV} {ys : List Value} (S : St cx θ ρ H s) (ho : VRel θ ρ (.str l) x) (hv : All2 (VRel θ ρ) vs ys) (e : strMeth H l n vs = some (v, H')) : Tri cx A (call (methF 0 n) (x :: ys) []) s (Res cx θ ρ s H' v) := by
  cases n with
  | join => exact join_meth S ho hv e
  | split => exact split_meth O S ho hv e
  | index => exact index_meth O S ho hv e
  | isspace => cases hv with
    | nil => exact cs2e (Q := fun v H' => Tri cx A (call (.builtin "str.isspace") [x] []) s (Res cx θ ρ s H' v)) e fun hz => leaf_space O S ho hz
    | cons _ _ => exact no_el e
  | _ => exact no_el e
theorem acc_meth (O : θ.Ok) (C : COk cx) (W : OwnOk cx) (CO : CountOk cx) (PO : PopFn cx) {f : Fns} {k d : Nat} {xs : List AV} {es : List (Nat × AV)} {n : Me} {vs : List AV} {ys : List Value} (hA : AOk A 8) (S : St cx θ ρ H s) (ho : VRel θ ρ (.ref k) x) (hg : H.get k = some (.acc d xs)) (hes : dctOf H d = some es) (hv : All2 (VRel θ ρ) vs ys) (hok : okKind 3 n = true) (hb : byBody 3 n = none)
    (e : accMeth f H k d xs n vs = some (v, H')) : Tri cx A (call (methF 3 n) (x :: ys) []) s (Res cx θ ρ s H' v) := by
  cases n with
  | append => cases hv with
    | nil => exact no_el e
    | @cons u y us ys hu hr => cases hr with
      | nil => exact cs2e (Q := fun v H' => Tri cx A (call (.builtin "list.append") [x, y] []) s (Res cx θ ρ s H' v)) e fun hz => accm_append C W.ao S ho hu hg (ble_t hz)
      | cons _ _ => exact no_el e
  | count => cases hv with
    | nil => exact cs2e (Q := fun v H' => Tri cx A (call (.ref 175) [x] []) s (Res cx θ ρ s H' v)) e fun hz => acc_count C CO (hA.le (by decide)) S ho hg
    | cons _ _ => exact no_el e
  | pop => cases hv with
    | nil => exact ob_el e fun u hl e => cs2e (Q := fun v H' => Tri cx A (call (.ref 138) [x] []) s (Res cx θ ρ s H' v)) e fun hz => acc_pop O C W.mo CO PO (hA.le (by decide)) S ho hg hes (ble_t hz) hl
    | cons _ _ => exact no_el e
  | _ => first | exact absurd hb (Option.some_ne_none _) | exact nomatch hok
theorem callMeth_list {f : Fns} {k : Nat} {xs : List AV} {n : Me} {vs : List AV} (hg : H.get k = some (.list xs)) : callMeth f H (.ref k) n vs = listMeth H k xs n vs := by unfold callMeth; dsimp only; rw [hg]
theorem callMeth_acc {f : Fns} {k d : Nat} {xs : List AV} {n : Me} {vs : List AV} (hg : H.get k = some (.acc d xs)) : callMeth f H (.ref k) n vs = accMeth f H k d xs n vs := by unfold callMeth; dsimp only; rw [hg]
theorem list_meth {k : Nat} {xs : List AV} {n : Me} {vs : List AV} {ys : List Value} (S : St cx θ ρ H s) (ho : VRel θ ρ (.ref k) x) (hg : H.get k = some (.list xs)) (hv : All2 (VRel θ ρ) vs ys) (e : listMeth H k xs n vs = some (v, H')) : Tri cx A (call (methF 1 n) (x :: ys) []) s (Res cx θ ρ s H' v) := by
  cases hv with
  | nil => exact no_el e
  | @cons u y us ys hu hr => cases hr with
    | cons _ _ => exact no_el e
    | nil => cases n with
      | append => exact cs2e (Q := fun v H' => Tri cx A (call (.builtin "list.append") [x, y] []) s (Res cx θ ρ s H' v)) e fun hz => list_append S ho hu hg (ble_t hz)
      | _ => exact no_el e
theorem leaf_prim (O : θ.Ok) (C : COk cx) (W : OwnOk cx) (CO : CountOk cx) (PO : PopFn cx) {f : Fns} {o : AV} {kd : Nat} {n : Me} {vs : List AV} {ys : List Value} (hA : AOk A 8) (S : St cx θ ρ H s) (ho : VRel θ ρ o x) (hv : All2 (VRel θ ρ) vs ys) (hk : kindO H o = some kd) (hok : okKind kd n = true) (hb : byBody kd n = none)
    (e : callMeth f H o n vs = some (v, H')) : Tri cx A (call (methF kd n) (x :: ys) []) s (Res cx θ ρ s H' v) :=
  kindO_el (P := fun o kd => VRel θ ρ o x → okKind kd n = true → byBody kd n = none → callMeth f H o n vs = some (v, H') → Tri cx A (call (methF kd n) (x :: ys) []) s (Res cx θ ρ s H' v)) hk (fun _ ho _ _ e => str_meth O S ho hv e) (fun _ _ hg ho _ _ e => list_meth S ho hg hv (callMeth_list hg ▸ e))
    (fun k d es _ _ _ hok hb _ => by cases n <;> first | exact absurd hb (Option.some_ne_none _) | exact nomatch hok) (fun _ _ _ _ hg hes ho hok hb e => acc_meth O C W CO PO hA S ho hg hes hv hok hb (callMeth_acc hg ▸ e)) ho hok hb e
end
end Mine
namespace Mine
open PySem PySem.W PyProof.Rows PySem.Calls Builtin.ObjectAttr

/-- x.push(*t) -/
structure PushOk (K : Frag) : Prop where
  has : hasDictIn K 178 = true
  get : specialIn K (.ref 122) "__get__" = some (some (.builtin "function.__get__"))
  takes : takesIn K (.ref 122) = some false
  fn : fnIn K 122 = true
  typ : typeIn K (.ref 122) = some (.type "function")
  push : findIn K (.ref 178) "push" = some (some (.ref 122))

section
variable {M : Model} {A : Around} {E : Value → Shared → Prop} {s : Shared}
theorem lone {f : Value} {t : Sem Value} {Q : Args → Shared → Prop}
    (h : wpAny M A t (fun v s₁ => StarOf M A E v (fun vs s₂ => Q ⟨vs, []⟩ s₂) s₁) E s) :
    wpAny M A (evalArgs f true [(true, t)] []) Q E s := by
  unfold evalArgs
  refine wpAny_bind (wpAny_mono h (fun v s₁ h₁ => wpAny_bind (wpAny_pure ?_)) fun _ _ x => x)
  unfold StarOf at h₁
  refine wpAny_holding ?_
  refine wpAny_bind (wpAny_pure ?_)
  refine wpAny_bind (wpAny_bind (wpAny_mono h₁ (fun b s₂ h₂ => ?_) fun _ _ x => x))
  obtain ⟨rfl, h₂⟩ := h₂
  have z := wpAny_holding (vs := []) (wpAny_mono h₂ (fun vs s₃ h₃ => (wpAny_pure h₃ : wpAny M A (pure (⟨vs, []⟩ : Args)) Q E s₃)) fun _ _ x => x)
  try simp only [Bool.false_eq_true, if_false]
  first
    | exact z
    | exact wpAny_bind (wpAny_pure z)
end

section
variable {cx : Cx} {θ : Th} {X ρ ρ' : List Addr} {H H' : AH} {s s' s'' : Shared} {A : Around} {v : AV} {x y z : Value} {E : Value → Shared → Prop} {K : Frag}

theorem acc_bound {a d : Addr} {vs : Array Value} {m : Nat} {ds : List DictEntry} {n : Nat} {Q : Value → Shared → Prop} (X : K.In s.heap) (AO : AccOk K) (P : PushOk K) (hga : findIn K (.ref 178) "__getattribute__" = some (some (.builtin "list.__getattribute__"))) (hgt : findIn K (.ref 178) "__getattr__" = some none)
    (ho : s.heap.get? a = some { cls := .ref 178, dict := some d, data := .seq vs m }) (hd : s.heap.get? d = some (dictOf ds n)) (hl : getL "push" ds = some none) (h : Q (.ref s.heap.objs.size) { s with toks := s.toks + 1, heap := s.heap.push (methodObj (.ref 122) (.ref a)) }) :
    Tri cx A (getAttr (.ref a) "push" true) s Q := by
  have I : InstAt s.heap a { cls := .ref 178, dict := some d, data := .seq vs m } 178 (some (dictOf ds n)) := ⟨ho, rfl, rfl, hd⟩
  have hf : findObj K 178 (some (dictOf ds n)) "push" = some (.bind (.builtin "function.__get__") (.ref 122)) := findObj_fn P.has P.push P.get P.takes (by decide +kernel) (by show lookIn _ (dictOf ds n) = _; rw [lookIn_dict, hl])
  unfold getAttr getAttrBy
  refine wpAny_bind (wpAny_mkText (wpAny_holding (wpAny_bind (I.type.here (s := { s with toks := s.toks + 1 }) (wpAny_bind ((looks_findIn X hga).here (s := { s with toks := s.toks + 1 }) ?_))))))
  show Tri cx A (getAttrByItsOwn (.ref a) (.str "push" s.toks) (.ref 178) (.builtin "list.__getattribute__") true true) { s with toks := s.toks + 1 } Q
  unfold getAttrByItsOwn hookBefore callGetattribute boundAndCalled
  refine wpAny_bind ((looks_findIn X hgt).here (s := { s with toks := s.toks + 1 }) ?_)
  have body : Tri cx A (call (.builtin "list.__getattribute__") [.ref a, .str "push" s.toks]) { s with toks := s.toks + 1 } fun r s' => r = .ref s.heap.objs.size ∧ s' = { s with toks := s.toks + 1, heap := s.heap.push (methodObj (.ref 122) (.ref a)) } := by
    refine acc_call (K := K) (s := { s with toks := s.toks + 1 }) X AO ho (.inl (by decide +kernel)) (n := "__getattribute__") (by decide +kernel) F.slot_list_getattribute.plain F.entry_list_ga (F.args_list_getattribute_2 _ _) ?_
    have fin : ∀ {k : Value → PySem.Builtin.ObjectAttr.Found → Sem Fin}, k (.ref 178) (.bind (.builtin "function.__get__") (.ref 122)) = bindTo (.builtin "function.__get__") (.ref 122) (.ref a) (.ref 178) → Tri cx A.in1 (typeOf (.ref a) >>= fun tp => PySem.Builtin.ObjectAttr.find (.ref a) tp "push" >>= k tp) { s with toks := s.toks + 1 } fun fin s' => ∃ v, fin = .done (.ret v) ∧ v = .ref s.heap.objs.size ∧ s' = { s with toks := s.toks + 1, heap := s.heap.push (methodObj (.ref 122) (.ref a)) } := by
      intro k hk
      refine wpAny_bind (I.type.here (s := { s with toks := s.toks + 1 }) (wpAny_bind ((looks_find X I hf).here (s := { s with toks := s.toks + 1 }) ?_)))
      rw [hk]
      unfold bindTo
      refine wpAny_bind (wpAny_holding (wpAny_call (fn_get (s := { s with toks := s.toks + 1 }) X P.typ ?_)))
      exact wpAny_pure ⟨_, rfl, rfl, rfl⟩
    first
      | (refine wpAny_bind (wpAny_pure (wpAny_bind (wpAny_pure (fin ?_)))); rfl)
      | (refine wpAny_bind (wpAny_pure (fin ?_)); rfl)
      | (refine fin ?_; rfl)
  refine wpAny_bind (wpAny_attempt (wpAny_holding ?_))
  show wpAny _ A (bindSpecial (.builtin "list.__getattribute__") (.ref a) >>= fun r => call r.1 (r.2 ++ [.str "push" s.toks])) _ _ _
  rw [F.slot_list_getattribute.bind]
  refine wpAny_bind (wpAny_pure (wpAny_mono body (fun r s' hr => ?_) fun _ _ e => e.elim))
  obtain ⟨rfl, rfl⟩ := hr
  show wpAny _ A (handedOut (.ref s.heap.objs.size)) Q _ _
  rw [handedOut_of rfl]
  exact wpAny_pure h

theorem starTup_out {tv : AV} {vs : List AV} (h : starTup H tv = some vs) : ∃ k, tv = .ref k ∧ H.get k = some (.tup vs) ∧ vs.length ≤ 4096 := by
  cases tv with
  | ref k =>
    refine get_el (f := fun r => match r with | some (.tup vs) => cond (Nat.ble vs.length 4096) (some vs) none | _ => none) h rfl fun o hg e => ?_
    cases o with
    | tup l => exact cnd_el e fun hz e => Option.some.inj e ▸ ⟨k, rfl, hg, ble_t hz⟩
    | _ => exact no_el e
  | _ => exact no_el h
theorem fn_own {K : Frag} {a : Addr} (h : fnIn K a = true) : ∃ c d fd sl, K.lookup a = some ⟨c, d, .func fd, sl⟩ := by
  unfold fnIn at h
  split at h
  · rename_i e; exact ⟨_, _, _, _, e⟩
  · exact nomatch h
theorem leaf_star (C : COk cx) (AK : AccOk cx.K) (MO : MethOk cx.K) (P : PushOk cx.K) {f : Fns} {n : Nat} {o : AV} {pos : Pos} {t : Sem Value} {tv : AV} {H₁ : AH} {vs : List AV} (call : CallOk cx θ f n) (hA : AOk A (n + 8)) (S : St cx θ ρ H s) (ho : VRel θ ρ o x) (hk : kindO H o = some 3)
    (ht : ∀ s₁, Lk cx [] ρ s ρ s₁ → St cx θ ρ H s₁ → Tri cx A t s₁ (Res cx θ ρ s₁ H₁ tv)) (_hk₁ : kindO H₁ o = some 3) (hs : starTup H₁ tv = some vs) (e : f.call H₁ 122 (o :: vs) = some (v, H')) :
    Tri cx A (getAttr x "push" true) s fun m s₁ => Tri cx A (callWith pos m [] [(true, t)] []) s₁ (Res cx θ ρ s H' v) := by
  refine kindO_el (P := fun o' kd => o' = o → kd = 3 → Tri cx A (getAttr x "push" true) s fun m s₁ => Tri cx A (callWith pos m [] [(true, t)] []) s₁ (Res cx θ ρ s H' v)) hk (fun _ _ h => nomatch h) (fun _ _ _ _ h => nomatch h) (fun _ _ _ _ _ _ h => nomatch h) (fun k d xs es hg hes eo _ => ?_) rfl rfl
  subst eo
  obtain ⟨ax, hax, rfl⟩ := id ho
  obtain ⟨_, hob, da, ws, m, hda, rfl, hr⟩ := S.getO hax hg
  obtain ⟨_, hod, ds, nd, rfl, hent⟩ := S.getO hda (dct_out hes)
  refine acc_bound (C.K.keeps S.base) AK P MO.aga MO.agt hob hod (ent_none (notAttr "push" mem5) hent) ?_
  have hk1 : ∀ b o, s.heap.get? b = some o → (s.heap.push (methodObj (.ref 122) (.ref ax))).get? b = some o := fun b o q => Heap.get?_push_of_some _ q
  have hz1 : s.heap.objs.size ≤ (s.heap.push (methodObj (.ref 122) (.ref ax))).objs.size := Heap.size_push .. ▸ Nat.le_succ _
  have l₁ : Lk cx [] ρ s ρ { s with toks := s.toks + 1, heap := s.heap.push (methodObj (.ref 122) (.ref ax)) } := .of_all hk1 rfl hz1
  obtain ⟨_, _, _, _, hfn⟩ := fn_own P.fn
  refine ks_call (P := fun g => g.get? s.heap.objs.size = some (methodObj (.ref 122) (.ref ax)) ∧ cx.K.In g) rfl (fun g hg' => ⟨.boundFrame, .inr (.inr rfl), (Looks.ld (part := none) hg'.1).andThen ((Looks.ld (part := none) (hg'.2 _ _ hfn)).andThen .now)⟩) (lone (Tri.mono (ht _ l₁ (S.frame hk1 S.bare hz1)) fun tvv s₂ ⟨ρ₂, l₂, S₂, v₂⟩ => ?_))
  -- the tuple
  have hmo₂ := l₂.keep.heap _ _ (Heap.get?_push_size _ rfl) (fun q => Nat.lt_irrefl _ (S.lt _ (List.nil_append ρ ▸ q : _ ∈ ρ))) fun q => Nat.lt_irrefl _ (Nat.lt_of_lt_of_le (C.tabs _ q) S.size)
  obtain ⟨kt, rfl, hgt, hzz⟩ := starTup_out hs
  obtain ⟨at', hat, rfl⟩ := v₂
  obtain ⟨_, hot, wt, nt, rfl, hrt⟩ := S₂.getO hat hgt
  unfold StarOf notIterableAtAll
  refine wpAny_bind (wpAny_specialOf (T := "tuple") ⟨_, hot, rfl⟩ F.slot_tuple_iter.lookup (wpAny_pure ⟨rfl, Tri.size ?_⟩))
  refine wpAny_collect_seq at' (.inr rfl) hot rfl rfl (fun h' hkk hz => ?_) (le4 (hrt.size ▸ hzz))
  have S₃ : St cx θ ρ₂ H₁ { s₂ with heap := h' } := S₂.frame hkk S₂.bare hz
  refine ⟨⟨hkk _ _ hmo₂, C.K.keeps S₃.base⟩, wpAny_call (method_call (hkk _ _ hmo₂) ?_)⟩
  refine codeAny_mono (call (hA.le (Nat.le_add_right n 8)) S₃ (.cons (l₂.vrel (l₁.vrel ho)) hrt) e) fun r s' q => ?_
  unfold CallPost at q
  split at q
  · exact q.step (l₁.trans (l₂.trans (.of_all (s' := { s₂ with heap := h' }) hkk rfl hz)))
  · exact q.elim
end
end Mine
namespace Mine
open PySem PySem.W PyProof.Rows PySem.Calls

/-! no run makes the row of generators shorter -/
theorem setGen_size (s : Shared) (g : Nat) (x : GenState) : (s.setGen g x).gens.size = s.gens.size := by simp [Shared.setGen]
theorem runs_gens {M : Model} {Γ : PySem.Ctx} {p : Pos} {t : Sem Fin} {fs : List Frame} {s s' : Shared} {e : End} (h : Runs M Γ p t fs s e s') : s.gens.size ≤ s'.gens.size := by
  induction h <;> (try simp only [setGen_size, Array.size_push] at *) <;> omega
theorem returns_gens {M : Model} {Γ : PySem.Ctx} {p : Pos} {s s' : Shared} {r : Result} (h : Returns M Γ p s r s') : s.gens.size ≤ s'.gens.size := runs_gens h
theorem wakes_gens {M : Model} {Γ : PySem.Ctx} {p : Pos} {g : Nat} {r : Resume} {s s' : Shared} {res : GenResult} (h : Wakes M Γ p g r s res s') : s.gens.size ≤ s'.gens.size := by
  unfold Wakes at h
  split at h
  · exact h.elim
  · split at h
    · obtain ⟨e₁, s₁, hr, _, _, rfl⟩ := h
      have := runs_gens hr
      simp only [setGen_size] at this ⊢; exact this
    · rw [h.2]; exact Nat.le_refl _
    · rw [h.2]; simp only [setGen_size]; exact Nat.le_refl _
  · obtain ⟨e₁, s₁, hr, _, _, rfl⟩ := h
    have := runs_gens hr
    simp only [setGen_size] at this ⊢; exact this
  · rw [h.2]; exact Nat.le_refl _
  · rw [h.2]; exact Nat.le_refl _
theorem wp_gens {α : Type} (M : Model) (Γ : PySem.Ctx) (n : Nat) (t : Sem α) : ∀ (Q : α → Pos → Shared → Prop) (E : Value → Pos → Shared → Prop) (p : Pos) (s : Shared), n ≤ s.gens.size → Sem.wp M Γ t Q E p s →
    Sem.wp M Γ t (fun a p' s' => n ≤ s'.gens.size ∧ Q a p' s') (fun e p' s' => n ≤ s'.gens.size ∧ E e p' s') p s := by
  induction t with
  | pure a => intro Q E p s hn h; exact ⟨hn, h⟩
  | raise e => intro Q E p s hn h; exact ⟨hn, h⟩
  | rule _ k ih => intro Q E p s hn h; exact ih () Q E p s hn h
  | «at» p' k ih => intro Q E p s hn h; exact ih () Q E p' s hn h
  | load a _ k ih => intro Q E p s hn h; obtain ⟨o, ho, h⟩ := h; exact ⟨o, ho, ih o Q E p s hn h⟩
  | update a _ f k ih => intro Q E p s hn h; exact ⟨h.1, ih () Q E p _ hn h.2⟩
  | loadIfAlive a k ih => intro Q E p s hn h; exact ih _ Q E p s hn h
  | point _ k ih => intro Q E p s hn h; exact ih () Q E p s hn h
  | alloc o k ih => intro Q E p s hn h; exact ih _ Q E p _ hn h
  | fresh k ih => intro Q E p s hn h; exact ih _ Q E p _ hn h
  | ask k ih => intro Q E p s hn h; exact ih _ Q E p s hn h
  | choose src m k ih => intro Q E p s hn h; exact ⟨h.1, ih _ Q E p _ hn h.2⟩
  | os q _ k ih => intro Q E p s hn h; exact ih _ Q E p _ hn h
  | call c hd _ _ k ih => intro Q E p s hn h; obtain ⟨r, s', hr, h⟩ := h; exact ⟨r, s', hr, ih r Q E p s' (Nat.le_trans hn (returns_gens hr)) h⟩
  | handled own k ih => intro Q E p s hn h; exact ih _ Q E p s hn h
  | genState g k ih => intro Q E p s hn h; obtain ⟨st, hs, h⟩ := h; exact ⟨st, hs, ih _ Q E p s hn h⟩
  | newGen c k ih => intro Q E p s hn h; exact ih _ Q E p _ (by show n ≤ (s.gens.push _).size; rw [Array.size_push]; omega) h
  | resume g r _ k ih => intro Q E p s hn h; obtain ⟨res, s', hw, h⟩ := h; exact ⟨res, s', hw, ih res Q E p s' (Nat.le_trans hn (wakes_gens hw)) h⟩
  | stack k ih => intro Q E p s hn h; exact ih _ Q E p s hn h
  | thread k ih => intro Q E p s hn h; exact ih _ Q E p s hn h
  | _ => intros; first | assumption | (rename_i h; exact h)
theorem Tri.gens {cx : Cx} {A : Around} {s : Shared} {α : Type} {t : Sem α} {P : α → Shared → Prop} (h : Tri cx A t s fun a s' => s.gens.size ≤ s'.gens.size → P a s') : Tri cx A t s P :=
  fun Γ p hΓ => Sem.wp_mono _ Γ t (fun _ _ _ q => q.2 q.1) (fun _ _ _ q => q.2) p s (wp_gens _ Γ _ t _ _ p s (Nat.le_refl _) (h Γ p hΓ))

section
variable {prog : Program} {w : World} {A : Around} {E : Value → Shared → Prop} {s : Shared}
/-- next(g), a yield to come -/
theorem next_gen {a : Addr} {g m : Nat} {gs : GenState} {Y : Protocol} {Q : Value → Shared → Prop} (hl : s.heap.NoLimit) (hroom : A.in1.depth < recursionLimit) (hg : s.heap.IsGen a g) (hgs : s.gens[g]? = some gs)
    (hgo : gs.Goes (model prog w) A.in1.in1 (fun _ _ _ _ => False) Y (m + 1) (.send .none) (s.setGen g .running))
    (hY : ∀ v s₁ gs', gs'.bare = true → Y m (s.setGen g .running) v s₁ (fun r' s'' => gs'.Goes (model prog w) A.in1.in1 (fun _ _ _ _ => False) Y m r' s'') → Q v (s₁.setGen g gs')) :
    wpAny (model prog w) A (call (.builtin "next") [.ref a]) Q E s := by
  refine call_function_entry (by decide +kernel) (by decide +kernel) kdk_entry_next (kdk_args_next _) ?_
  unfold Builtin.«next»
  refine wpAny_bind (m := someArgs "next" 1 2 _) (wpAny_of_eq (a := [Value.ref a]) (by first | rfl | kernel_rfl) ?_)
  dsimp only
  refine wpAny_bind (wpAny_specialOf (name := Str.ofString "__next__") hg.typeIs slot_gen_next.lookup ?_)
  refine wpAny_ite_split (fun hab => absurd hab (by decide)) (fun _ => ?_)
  refine wpAny_bind (wpAny_callSpecial?_slot (name := Str.ofString "__next__") hg.typeIs slot_gen_next (wpAny_call_entry slot_gen_next hg.typeIs entry_gen_next ?_ (args_gen_next _)))
  show wpAny _ A.in1.in1 (Builtin.Generator.genWake (.ref a) (.send .none)) _ _ s
  unfold Builtin.Generator.genWake
  refine wpAny_bind (wpAny_holding (wpAny_genNumber hg (wpAny_bind (wpAny_genState hgs ?_))))
  cases gs with
  | running => exact hgo.elim
  | finished => exact hgo.elim
  | _ =>
    refine wpAny_bind (wpAny_roomToWake hl hroom ?_)
    show wpAny _ A.in1.in1 (.resume g (.send .none) [] _) _ _ s
    refine wpAny_resumeQ hgs hgo (fun x s₁ hx => hx.elim) (fun v s₁ gs' hb hv => ?_)
    exact wpAny_pure ⟨v, rfl, wpAny_pure ⟨_, rfl, hY v s₁ gs' hb hv⟩⟩
end
end Mine
namespace Mine
open PySem PySem.W PyProof.Rows PySem.Calls

/-! the rooms of a page -/
/-- self.a - e -/
noncomputable def room0E (e : Expr) : Bool := isBinOp e fun l op r _ => attB "self" "_maxlen" l && (Nat.beq op.ctorIdx 1 && isCl r fun f as _ => nmB "len" f && is1 as (attB "self" "_current_line"))
theorem room0E_el {e : Expr} {P : Prop} (h : room0E e = true) (g : ∀ p1 p2 p3 p4 p5 p6 p7, e = .BinOp (.Attribute (.Name "self" p1) "_maxlen" p2) .Sub (.Call (.Name "len" p3) [.Attribute (.Name "self" p4) "_current_line" p5] [] p6) p7 → P) : P :=
  isBinOp_el h fun l op r p7 e1 h => have ⟨h1, h⟩ := and_t h; have ⟨h2, h⟩ := and_t h; attB_el h1 fun p1 p2 e2 => isCl_el h fun f as p6 e3 h => nmB_el (and_t h).1 fun p3 e4 => is1_el (and_t h).2 fun a e5 h => attB_el h fun p4 p5 e6 =>
    g p1 p2 p3 p4 p5 p6 p7 (by rw [e1, e2, e3, e4, e5, e6, Operator.Sub.elim (motive := fun o => o = .Sub) op (beq_t h2) rfl])
noncomputable def room1E (e : Expr) : Bool := isBinOp e fun l op r _ => attB "self" "_maxlen" l && (Nat.beq op.ctorIdx 1 && attB "self" "_continuation_ws_len" r)
theorem room1E_el {e : Expr} {P : Prop} (h : room1E e = true) (g : ∀ p1 p2 p3 p4 p5, e = .BinOp (.Attribute (.Name "self" p1) "_maxlen" p2) .Sub (.Attribute (.Name "self" p3) "_continuation_ws_len" p4) p5 → P) : P :=
  isBinOp_el h fun l op r p5 e1 h => have ⟨h1, h⟩ := and_t h; have ⟨h2, h⟩ := and_t h; attB_el h1 fun p1 p2 e2 => attB_el h fun p3 p4 e3 => g p1 p2 p3 p4 p5 (by rw [e1, e2, e3, Operator.Sub.elim (motive := fun o => o = .Sub) op (beq_t h2) rfl])
noncomputable def yieldB (g : Expr → Bool) (s : Stmt) : Bool := stExpr s fun e _ => isYield e fun e _ => isS e g
theorem yieldB_el {f : Expr → Bool} {s : Stmt} {P : Prop} (h : yieldB f s = true) (g : ∀ e p q, s = .Expr (.Yield (some e) p) q → f e = true → P) : P :=
  stExpr_el h fun _ q e1 h => isYield_el h fun _ p e2 h => isS_el h fun e e3 h => g e p q (by rw [e1, e2, e3]) h
noncomputable def trueB (e : Expr) : Bool := isConstant e fun c _ _ => cobool c fun b => b
theorem trueB_el {e : Expr} {P : Prop} (h : trueB e = true) (g : ∀ k p, e = .Constant (.bool true) k p → P) : P :=
  isConstant_el h fun _ k p e1 h => cobool_el h fun _ e2 h => g k p (by rw [e1, e2, h])
noncomputable def roomsB (b : List Stmt) : Bool := isC b fun y r => yieldB room0E y && is1 r fun w => stWhile w fun t b o _ => trueB t && (none? o && is1 b (yieldB room1E))
theorem roomsB_el {b : List Stmt} {P : Prop} (h : roomsB b = true) (g : ∀ y t z p, b = [y, .While t [z] [] p] → yieldB room0E y = true → trueB t = true → yieldB room1E z = true → P) : P :=
  isC_el h fun y r e1 h => have ⟨h1, h⟩ := and_t h; is1_el h fun w e2 h => stWhile_el h fun t b o p e3 h => have ⟨h2, h⟩ := and_t h; is1_el (and_t h).2 fun z e4 h4 => g y t z p (by rw [e1, e2, e3, e4, none?_out (and_t h).1]) h1 h2 h4

structure RoomFn (cx : Cx) : Prop where
  ok : ∃ fd b, HandOk cx 77 fd b ["self"] ∧ fd.scope.isGenerator = true ∧ roomsB b = true ∧ fd.scope.names.lookup ("len" : Str) = some .globalImplicit

section
variable {cx : Cx} {θ : Th} {X ρ ρ' : List Addr} {H H' : AH} {s s' s'' : Shared} {A : Around} {v : AV} {x y z : Value} {E : Value → Shared → Prop}

theorem Lk.eq_len (l : Lk cx X ρ s ρ' s') (S : St cx θ ρ H s) (S' : St cx θ ρ' H s') : ρ' = ρ := by
  obtain ⟨⟨tl, rfl, _⟩, _⟩ := l
  have h1 := S.len
  have h2 := S'.len
  rw [List.length_append, h1] at h2
  rw [List.length_eq_zero_iff.mp (Nat.add_left_cancel (h2.trans (Nat.add_zero _).symm)), List.append_nil]
/-- a run that makes nothing -/
theorem Tri.same {t : Sem Value} {Q : Value → Shared → Prop} (S : St cx θ ρ H s) (h : Tri cx A t s (Res cx θ ρ s H v)) (k : ∀ u s₁, Lk cx [] ρ s ρ s₁ → St cx θ ρ H s₁ → VRel θ ρ v u → Q u s₁) : Tri cx A t s Q := by
  refine h.mono fun u s₁ ⟨ρ₁, l₁, S₁, v₁⟩ => ?_
  have e := l₁.eq_len S S₁
  subst e
  exact k u s₁ l₁ S₁ v₁

theorem self_att (C : COk cx) (W : OwnOk cx) {env : Env} {o : AV} {i : Nat} {nm : Str} {m : Str → Option Value} {p q : Pos} (hk : env.scope.kind = .function) (hself : env.kindOf "self" = some .local) (hns : s.heap.Ns env.locals m) (hm : m "self" = some x) (S : St cx θ ρ H s) (hx : VRel θ ρ o x) (hn : attrs[i]? = some nm) (e : getAttrA H o i = some v) :
    Tri cx A (eval (.Attribute (.Name "self" p) nm q) env) s (Res cx θ ρ s H v) := by
  rw [arm_eval_Attribute, base_of (o := .Name "self" p) rfl]
  refine wpAny_bind (wpAny_Name (wpAny_loadName_local hk hself hns hm (wpAny_bind (wpAny_standAt (wpAny_bind (wpAny_holding ?_))))))
  refine Tri.mono (leaf_att C W.ao W.po W.qo W.mo S hx hn e) fun z s₂ r => ?_
  exact wpAny_bind (wpAny_letTemporaryGo (wpAny_pure r))

theorem Lk.gens {g : Nat} {gs : GenState} : Lk cx X ρ s ρ (s.setGen g gs) := .same rfl rfl
theorem getAttrA_at {k d n : Nat} {es : List (Nat × AV)} (hg : H.get k = some (.page d)) (hes : dctOf H d = some es) (hf : field n es = some v) (hp : plainV v = true) : getAttrA H (.ref k) n = some v := by
  show ob (ob (H.get k) dictOfO) (fun d => ob (dctOf H d) fun es => ob (field n es) fun v => cond (plainV v) (some v) none) = _
  rw [hg]
  show ob (dctOf H d) (fun es => ob (field n es) fun v => cond (plainV v) (some v) none) = _
  rw [hes]
  show ob (field n es) (fun v => cond (plainV v) (some v) none) = _
  rw [hf]
  show cond (plainV v) _ _ = _
  rw [hp]; rfl

theorem St.setGen (S : St cx θ ρ H s) {g : Nat} {gs : GenState} (hb : gs.bare = true) : St cx θ ρ H (s.setGen g gs) := by
  refine S.frame (fun _ _ e => e) ?_ (Nat.le_refl _)
  intro y hy
  rcases Array.mem_or_eq_of_mem_setIfInBounds hy with h | h
  · exact S.bare y h
  · rw [h]; exact hb

theorem room1_el {es : List (Nat × AV)} {a : AI} {P : Prop} (e : room1 es = some a) (k : ∀ m w, field 0 es = some (.int m) → field 2 es = some (.int w) → asub m w = some a → P) : P := by
  change (match field 0 es, field 2 es with | some (.int m), some (.int wl) => asub m wl | _, _ => none) = _ at e
  cases h0 : field 0 es with
  | none => rw [h0] at e; exact no_el e
  | some u =>
    rw [h0] at e
    cases u with
    | int m =>
      cases h2 : field 2 es with
      | none => rw [h2] at e; exact no_el e
      | some u =>
        rw [h2] at e
        cases u with
        | int w => exact k m w h0 h2 e
        | _ => exact no_el e
    | _ => exact no_el e
theorem room0_el {es : List (Nat × AV)} {a : AI} {P : Prop} (e : room0 H es = some a) (k : ∀ m c d xs n, field 0 es = some (.int m) → field 5 es = some (.ref c) → H.get c = some (.acc d xs) → accLen H d xs = some n → asub m n = some a → P) : P := by
  change (match field 0 es, field 5 es with | some (.int m), some (.ref c) => (match H.get c with | some (.acc d xs) => ob (accLen H d xs) fun n => asub m n | _ => none) | _, _ => none) = _ at e
  cases h0 : field 0 es with
  | none => rw [h0] at e; exact no_el e
  | some u =>
    rw [h0] at e
    cases u with
    | int m =>
      cases h2 : field 5 es with
      | none => rw [h2] at e; exact no_el e
      | some u =>
        rw [h2] at e
        cases u with
        | ref c =>
          refine get_el (f := fun r => match r with | some (.acc d xs) => ob (accLen H d xs) fun n => asub m n | _ => none) e rfl fun o hg e => ?_
          cases o with
          | acc d xs => exact ob_el e fun n hn e => k m c d xs n h0 h2 hg hn e
          | _ => exact no_el e
        | _ => exact no_el e
    | _ => exact no_el e
theorem roomsOf_el {o : AV} {p : AI × AI} {P : Prop} (e : roomsOf H o = some p) (k : ∀ mx wl c d xs n, getAttrA H o 0 = some (.int mx) → getAttrA H o 2 = some (.int wl) → getAttrA H o 5 = some (.ref c) → H.get c = some (.acc d xs) → accLen H d xs = some n → asub mx n = some p.1 → asub mx wl = some p.2 → P) : P := by
  obtain ⟨i, d, es, rfl, hg, hes, e⟩ := roomsOf_out e
  refine ob_el e fun a0 h0 e => ob_el e fun a1 h1 e => room0_el h0 fun m c d' xs n f0 f5 hgc hn s0 => room1_el h1 fun m' w f0' f2 s1 => ?_
  obtain rfl := Option.some.inj e
  have em : m' = m := by have h := Option.some.inj (f0'.symm.trans f0); cases h; rfl
  exact k m w c d' xs n (getAttrA_at hg hes f0 rfl) (getAttrA_at hg hes f2 rfl) (getAttrA_at hg hes f5 rfl) hgc hn s0 (em ▸ s1)

/-- an expression that is reckoned in the generator's frame -/
noncomputable def Reck (cx : Cx) (θ : Th) (ρ : List Addr) (H : AH) (env : Env) (m : Str → Option Value) (n : Nat) (e : Expr) (a : AI) : Prop := ∀ (A : Around) (s : Shared), AOk A n → St cx θ ρ H s → s.heap.Ns env.locals m → Tri cx A (eval e env) s fun v st => VRel θ ρ (.int a) v ∧ Lk cx [] ρ s ρ st ∧ St cx θ ρ H st
section
variable {fd : FuncData} {b : List Stmt} {m : Str → Option Value} {L : Addr} {o : AV} {a0 a1 mx wl : AI} {e0 e1 : Expr}
theorem reck1 (O : θ.Ok) (C : COk cx) (W : OwnOk cx) (O1 : HandOk cx 77 fd b ["self"]) (hL : L ∉ ρ) (hLo : cx.h₁.objs.size ≤ L) (hm : m "self" = some x) (ho : VRel θ ρ o x) (he : room1E e1 = true) (at0 : getAttrA H o 0 = some (.int mx)) (at2 : getAttrA H o 2 = some (.int wl)) (h1 : asub mx wl = some a1) :
    Reck cx θ ρ H (callEnv fd L 77) m 0 e1 a1 := by
  refine room1E_el he fun r1 r2 r3 r4 r5 ee => ?_
  subst ee
  intro A s _ S hns
  have hself := O1.loc _ (.head _)
  refine wpAny_BinOp (Tri.same S (self_att C W O1.kind hself hns hm S ho (i := 0) rfl at0) fun u s₁ l₁ S₁ v₁ => ?_)
  refine Tri.same S₁ (self_att C W O1.kind hself (ns_step C hns l₁ hL hLo) hm S₁ ho (i := 2) rfl at2) fun u' s₂ l₂ S₂ v₂ => ?_
  exact Tri.same S₂ (binop_ok O S₂ (op := .Sub) (bop := .sub) rfl (a := .int mx) (b := .int wl) (v := .int a1) (congrArg oi h1) v₁ v₂) fun z s₃ l₃ S₃ v₃ => ⟨v₃, l₁.trans (l₂.trans l₃), S₃⟩
theorem reck0 (O : θ.Ok) (C : COk cx) (W : OwnOk cx) (O1 : HandOk cx 77 fd b ["self"]) (hlen : fd.scope.names.lookup ("len" : Str) = some .globalImplicit) (hL : L ∉ ρ) (hLo : cx.h₁.objs.size ≤ L) (hm : m "self" = some x) (ho : VRel θ ρ o x) (he : room0E e0 = true) {c d : Nat} {xs : List AV} {n : AI}
    (at0 : getAttrA H o 0 = some (.int mx)) (at5 : getAttrA H o 5 = some (.ref c)) (hgc : H.get c = some (.acc d xs)) (hn : accLen H d xs = some n) (h0 : asub mx n = some a0) :
    Reck cx θ ρ H (callEnv fd L 77) m 4 e0 a0 := by
  refine room0E_el he fun p1 p2 p3 p4 p5 p6 p7 ee => ?_
  subst ee
  intro A s hA S hns
  have hself := O1.loc _ (.head _)
  refine wpAny_BinOp (Tri.same S (self_att C W O1.kind hself hns hm S ho (i := 0) rfl at0) fun u s₁ l₁ S₁ v₁ => ?_)
  refine wpAny_Call_ofName (env_builtin C O1.kind hlen O1.glob O1.blt S₁.base (by decide) W.lf.len.1 W.lf.len.2 (callWith_at rfl (fun M h _ => ⟨.machine, .inr (.inl rfl), Looks.of_pure rfl⟩) ?_))
  refine wpAny_items_cons (Tri.same S₁ (self_att C W O1.kind hself (ns_step C hns l₁ hL hLo) hm S₁ ho (i := 5) rfl at5) fun u' s₂ l₂ S₂ v₂ => ?_) rfl
  refine wpAny_items_nil ⟨C.K.keeps S₂.base, Tri.same S₂ (len_acc O C W hA S₂ v₂ hgc hn) fun u'' s₃ l₃ S₃ v₃ => ?_⟩
  exact Tri.same S₃ (binop_ok O S₃ (op := .Sub) (bop := .sub) rfl (a := .int mx) (b := .int n) (v := .int a0) (congrArg oi h0) v₁ v₃) fun z s₄ l₄ S₄ v₄ => ⟨v₄, l₁.trans (l₂.trans (l₃.trans l₄)), S₄⟩

/-- what the generator hands out -/
noncomputable def RY (cx : Cx) (θ : Th) (ρ : List Addr) (H : AH) (L : Addr) (m : Str → Option Value) (a0 a1 : AI) : Protocol := fun n s₀ v st kap => match n with
  | 0 => VRel θ ρ (.int a1) v ∧ Lk cx [] ρ s₀ ρ st ∧ St cx θ ρ H st
  | _ + 1 => VRel θ ρ (.int a0) v ∧ Lk cx [] ρ s₀ ρ st ∧ St cx θ ρ H st ∧ s₀.gens.size ≤ st.gens.size ∧ ∀ s'', St cx θ ρ H s'' → s''.heap.Ns L m → kap (.send .none) s''
/-- where the generator stands -/
noncomputable def RG (cx : Cx) (θ : Th) (ρ : List Addr) (H : AH) (A : Around) (L ga gi : Nat) (m : Str → Option Value) (a0 a1 : AI) (c : Code) (k : Nat) (st : Shared) : Prop := st.heap.IsGen ga gi ∧ st.heap.Ns L m ∧ match k with
  | 0 => st.gens[gi]? = some (.fresh c)
  | _ + 1 => ∃ gs, st.gens[gi]? = some gs ∧ ∀ s'', St cx θ ρ H s'' → s''.heap.Ns L m → gs.Goes (model cx.prog cx.w) A.in1.in1 (fun _ _ _ _ => False) (RY cx θ ρ H L m a0 a1) 1 (.send .none) s''
theorem setGen_same {g : Nat} {gs : GenState} (h : g < s.gens.size) : (s.setGen g gs).gens[g]? = some gs := by
  show (s.gens.setIfInBounds g gs)[g]? = _
  rw [Array.getElem?_setIfInBounds_self_of_lt h]
theorem rooms_next0 (C : COk cx) (O1 : HandOk cx 77 fd b ["self"]) (hA : AOk A 8) {ga gi : Nat} {q1 q2 q3 q4 pw pt : Pos} {kt : Nat} (hL : L ∉ ρ) (hLo : cx.h₁.objs.size ≤ L) (hG : ga ∉ ρ) (hGt : ga ∉ cx.tabs) (r0 : Reck cx θ ρ H (callEnv fd L 77) m 4 e0 a0) (r1 : Reck cx θ ρ H (callEnv fd L 77) m 0 e1 a1)
    (hg : RG cx θ ρ H A L ga gi m a0 a1 (.func [.Expr (.Yield (some e0) q1) q2, .While (.Constant (.bool true) kt pt) [.Expr (.Yield (some e1) q3) q4] [] pw] (callEnv fd L 77)) 0 s) (S : St cx θ ρ H s) {c : Code} :
    Tri cx A (call (.builtin "next") [.ref ga] []) s fun y s₃ => Lk cx [] ρ s ρ s₃ ∧ St cx θ ρ H s₃ ∧ VRel θ ρ (.int a0) y ∧ RG cx θ ρ H A L ga gi m a0 a1 c 1 s₃ := by
  obtain ⟨hig, hn', hq⟩ := hg
  obtain ⟨loose, T⟩ := C.top
  have hlt : gi < s.gens.size := (Array.getElem?_eq_some_iff.mp hq).1
  have inter : interactive (callEnv fd L 77) = false := by unfold interactive; show (fd.scope.kind == .module && _) = false; rw [O1.kind]; rfl
  have hA₂ : ∀ bd, AOk (A.in1.in1.over (.func bd (callEnv fd L 77)) []) 4 := fun bd => ⟨hA.hd, Nat.lt_of_le_of_lt (Nat.add_le_add_left (by decide : 1 + 4 ≤ 8) A.depth) hA.dp, Nat.lt_of_le_of_lt (Nat.add_le_add_left (by decide : 1 + 1 + 0 + 3 + 8 * 4 ≤ 8 * 8) A.units) hA.un⟩
  refine next_gen (Y := RY cx θ ρ H L m a0 a1) (m := 1) (T.nolimit.keeps S.base) hA.room hig hq ⟨rfl, ?_⟩ (fun v s₁ gs' hb hv => ?_)
  · refine seg_func (seg_execs_cons (seg_Expr_Yield rfl rfl rfl ?_ O1.co inter))
    refine wpAny_mono (Tri.gens (P := fun v st => (VRel θ ρ (.int a0) v ∧ Lk cx [] ρ (s.setGen gi .running) ρ st ∧ St cx θ ρ H st) ∧ (s.setGen gi .running).gens.size ≤ st.gens.size) (Tri.mono (r0 _ _ (hA₂ _) (S.setGen rfl) hn') fun v st hv hgl => ⟨hv, hgl⟩)) (fun v st hv kap hkap => ?_) (fun _ _ q => q.elim)
    refine ⟨hv.1.1, hv.1.2.1, hv.1.2.2, hv.2, fun s'' S'' hn'' => hkap .none s'' ?_⟩
    show Seg _ _ _ (RY cx θ ρ H L m a0 a1) 1 s'' _ ((execs _ _).wrap _ _ _ _) [] s''
    refine seg_execs_cons (seg_While fun pp => seg_whileLoop (isTrue_plain (wpAny_Constant_bool (wpAny_of_eq (a := true) rfl ?_))))
    rw [if_pos rfl]
    refine seg_execs_cons (seg_Expr_Yield rfl rfl rfl ?_ O1.co inter)
    refine wpAny_mono (r1 _ _ ?_ S'' hn'') (fun v st hv kap _ => hv) (fun _ _ q => q.elim)
    exact (hA₂ []).le (by decide)
  · obtain ⟨hvr, l, S₁', hgl, hkap⟩ := hv
    obtain ⟨og, nm, qn, hog, hr⟩ := hig
    have lall : Lk cx [] ρ s ρ (s₁.setGen gi gs') := Lk.trans (Lk.gens (g := gi) (gs := .running)) (l.trans Lk.gens)
    exact ⟨lall, S₁'.setGen hb, hvr, ⟨og, nm, qn, lall.keep.heap _ _ hog (fun q => hG (List.nil_append ρ ▸ q : _ ∈ ρ)) hGt, hr⟩, ns_step C hn' lall hL hLo, gs', setGen_same (Nat.lt_of_lt_of_le (setGen_size s gi .running ▸ hlt) hgl), hkap⟩
theorem rooms_next1 (C : COk cx) (hA : AOk A 8) {ga gi : Nat} {c : Code} (hg : RG cx θ ρ H A L ga gi m a0 a1 c 1 s) (S : St cx θ ρ H s) :
    Tri cx A (call (.builtin "next") [.ref ga] []) s fun y s₃ => Lk cx [] ρ s ρ s₃ ∧ St cx θ ρ H s₃ ∧ VRel θ ρ (.int a1) y := by
  obtain ⟨hig, hn', gs, hq, hgo⟩ := hg
  obtain ⟨loose, T⟩ := C.top
  refine next_gen (Y := RY cx θ ρ H L m a0 a1) (m := 0) (T.nolimit.keeps S.base) hA.room hig hq (hgo _ (S.setGen rfl) hn') (fun v s₁ gs' hb hv => ?_)
  exact ⟨Lk.trans (Lk.gens (g := gi) (gs := .running)) (hv.2.1.trans Lk.gens), hv.2.2.setGen hb, hv.1⟩
end
/-- what is said of the rooms' generator -/
noncomputable def RoomsPost (cx : Cx) (θ : Th) (ρ : List Addr) (H : AH) (A : Around) (s : Shared) (p : AI × AI) (g : Value) (s₁ : Shared) : Prop := ∃ (G : Nat → Shared → Prop) (X : List Addr), (∀ b ∈ X, s.heap.objs.size ≤ b) ∧
      Lk cx [] ρ s ρ s₁ ∧ St cx θ ρ H s₁ ∧ G 0 s₁ ∧ (∀ k s₂ s₃, G k s₂ → (∀ b o, s.heap.objs.size ≤ b → s₂.heap.get? b = some o → s₃.heap.get? b = some o) → s₃.gens = s₂.gens → G k s₃) ∧
      (∀ {s₂}, G 0 s₂ → St cx θ ρ H s₂ → Tri cx A (call (.builtin "next") [g] []) s₂ fun y s₃ => Lk cx X ρ s₂ ρ s₃ ∧ St cx θ ρ H s₃ ∧ VRel θ ρ (.int p.1) y ∧ G 1 s₃) ∧
      (∀ {s₂}, G 1 s₂ → St cx θ ρ H s₂ → Tri cx A (call (.builtin "next") [g] []) s₂ fun y s₃ => Lk cx X ρ s₂ ρ s₃ ∧ St cx θ ρ H s₃ ∧ VRel θ ρ (.int p.2) y)
theorem leaf_rooms (O : θ.Ok) (C : COk cx) (W : OwnOk cx) (RF : RoomFn cx) {o : AV} {p : AI × AI} (hA : AOk A 8) (S : St cx θ ρ H s) (ho : VRel θ ρ o x) (e : roomsOf H o = some p) : Tri cx A (call (.ref 77) [x] []) s (RoomsPost cx θ ρ H A s p) := by
  obtain ⟨fd, b, O1, hgen, hb, hlen⟩ := RF.ok
  refine roomsB_el hb fun y0 t0 z0 pw eb hy0 ht0 hz0 => yieldB_el hy0 fun e0 q1 q2 ey he0 => yieldB_el hz0 fun e1 q3 q4 ez he1 => trueB_el ht0 fun kt pt et => roomsOf_el e fun mx wl c d xs n at0 at2 at5 hgc hn h0 h1 => ?_
  subst et ez ey eb
  clear hb hy0 ht0 hz0 e
  obtain ⟨loose, T⟩ := C.top
  obtain ⟨of, hof, hfd⟩ := O1.obj
  -- the call
  refine wpAny_call (codeAny_call_generator hA.room (S.base _ _ hof) hfd O1.co hgen O1.body (codeRec_of (C.K.keeps S.base) O1.code) ?_)
  refine O1.bind s [x] S.base rfl _ _ _ _ (wpAny_newFunctionEnv O1.cell (fun y hy => O1.loc _ (List.of_mem_zip hy).1) (fun h₀ hns hsb => ⟨(T.nolimit.keeps S.base).fresh _ hsb, ?_⟩) O1.kind)
  have hk : ∀ b o, s.heap.get? b = some o → h₀.get? b = some o := fun b o q => hsb.extBut b o (Nat.ne_of_lt (Heap.lt_size q)) (Heap.get?_push_of_some _ q)
  have hsz : h₀.objs.size = s.heap.objs.size + 1 := by rw [hsb.1, Heap.size_push]
  have hL : s.heap.objs.size ∉ ρ := fun q => Nat.lt_irrefl _ (S.lt _ q)
  have hle : s.heap.objs.size ≤ h₀.objs.size := hsz ▸ Nat.le_succ _
  have hGo : cx.h₁.objs.size ≤ h₀.objs.size := Nat.le_trans S.size hle
  refine ⟨RG cx θ ρ H A s.heap.objs.size h₀.objs.size s.gens.size _ p.1 p.2 _, [], fun _ q => (nomatch q), ?_, ?_, ⟨⟨_, _, _, Heap.get?_push_size _ rfl, rfl, rfl, rfl⟩, hns.push _, Array.getElem?_push_size ..⟩, ?_, fun hg S₂ => rooms_next0 C O1 hA hL S.size (fun q => Nat.lt_irrefl _ (Nat.lt_of_lt_of_le (S.lt _ q) hle)) (fun q => Nat.lt_irrefl _ (Nat.lt_of_lt_of_le (C.tabs _ q) hGo)) (reck0 O C W O1 hlen hL S.size rfl ho he0 at0 at5 hgc hn h0) (reck1 O C W O1 hL S.size rfl ho he1 at0 at2 h1) hg S₂,
    fun hg S₂ => rooms_next1 C hA hg S₂⟩
  · exact .of_all (fun b o q => Heap.get?_push_of_some _ (hk b o q)) rfl (by show _ ≤ (h₀.push _).objs.size; rw [Heap.size_push]; exact Nat.le_succ_of_le hle)
  · exact S.frame (fun b o q => Heap.get?_push_of_some _ (hk b o q)) (AllBare.push S.bare rfl) (by show _ ≤ (h₀.push _).objs.size; rw [Heap.size_push]; exact Nat.le_succ_of_le hle)
  · exact fun k' s₂ s₃ hg hkk hgg => ⟨hg.1.elim fun og h => h.elim fun nm h => h.elim fun qn h => ⟨og, nm, qn, hkk _ _ hle h.1, h.2⟩, hg.2.1.at' fun o q => hkk _ o (Nat.le_refl _) q, by rw [hgg]; exact hg.2.2⟩
end
end Mine
namespace Mine
open PySem PySem.W PyProof.Rows PySem.Calls

/-! the written part of the heap: what is asked of it -/
noncomputable def isTab (a : Nat) : Bool := Nat.beq a 140 || Nat.beq a 147
noncomputable def tabsL : List Addr := [140, 147]
/-- without the two tables -/
noncomputable def dropT (K : Frag) : Frag := K.filter fun p => !isTab p.1
theorem isTab_t {a : Nat} (h : isTab a = true) : a ∈ tabsL := (or_t h).elim (fun h => beq_t h ▸ .head _) fun h => beq_t h ▸ mem2
theorem isTab_f {a : Nat} (h : isTab a = false) : a ∉ tabsL := fun m => by
  rcases List.mem_cons.mp m with rfl | m
  · exact nomatch h
  · obtain rfl := List.mem_singleton.mp m; exact nomatch h
theorem lookup_dropT {a : Addr} {o : Obj} {K : Frag} (e : (dropT K).lookup a = some o) : List.lookup a K = some o ∧ a ∉ tabsL := by
  induction K with
  | nil => exact no_el e
  | cons p r ih =>
    obtain ⟨b, q⟩ := p
    change List.lookup a (List.filter (fun p => !isTab p.1) ((b, q) :: r)) = some o at e
    rw [List.filter_cons] at e
    rw [List.lookup_cons]
    cases ht : isTab b with
    | true =>
      rw [if_neg (by rw [ht]; exact Bool.false_ne_true)] at e
      obtain ⟨h1, h2⟩ := ih e
      rw [show (a == b) = false from beq_false_of_ne fun z => h2 (z ▸ isTab_t ht)]
      exact ⟨h1, h2⟩
    | false =>
      rw [if_pos (by rw [ht]; rfl), List.lookup_cons] at e
      cases hab : a == b with
      | true =>
        rw [hab] at e
        exact ⟨e, beq_iff_eq.mp hab ▸ isTab_f ht⟩
      | false =>
        rw [hab] at e
        exact ih e
theorem in_dropT {K : Frag} {h : Heap} (X : K.In h) : (dropT K).In (hideAll h tabsL) := fun a o e => by
  obtain ⟨h1, h2⟩ := lookup_dropT e
  exact hideAll_get _ (X _ _ h1) h2

noncomputable abbrev mkCx (prog : Program) (w : World) (h₁ : Heap) (mg mb : Str → Option Value) (K : Frag) : Cx := ⟨prog, w, h₁, tabsL, mg, mb, dropT K⟩

theorem topRead_hide {p : Program} {loose : List Str} {mg mb : Str → Option Value} {h : Heap} (T : TopRead p loose mg mb h) : TopRead p loose mg mb (hideAll h tabsL) :=
  ⟨T.g.at' fun o e => hideAll_get _ e (by decide), T.b.at' fun o e => hideAll_get _ e (by decide), let ⟨m, a, b⟩ := T.nolimit; ⟨m, a.at' fun o e => hideAll_get _ e (by decide), b⟩, T.builtins, T.free⟩

noncomputable def noFd : FuncData := { name := "", qualname := "", params := { posonlyargs := [], args := [], vararg := none, kwonlyargs := [], kw_defaults := [], kwarg := none, defaults := [] }, body := .stmts [], scope := { kind := .function, names := [], isGenerator := false, isCoroutine := false }, globals := 0, closure := [], defaults := .none, kwdefaults := .none, pyModule := .none, code := .none }
noncomputable def funcD (d : Data) : FuncData := dite (d.ctorIdx = 7) (fun h => Data.func.elim d h id) fun _ => noFd
noncomputable def fdOf (K : Frag) (a : Addr) : FuncData := match K.lookup a with
  | some o => funcD o.data
  | none => noFd
theorem fdOf_eq {K : Frag} {a : Addr} {o : Obj} {fd : FuncData} (ho : K.lookup a = some o) (hd : o.data = .func fd) : fdOf K a = fd := by unfold fdOf; rw [ho]; show funcD o.data = fd; rw [hd]; rfl
noncomputable def bodyOf (fd : FuncData) : List Stmt := match fd.body with
  | .stmts b => b
  | _ => []
noncomputable def notCell (p : Str × NameKind) : Bool := match p.2 with
  | .cell => false
  | _ => true
noncomputable def isStmts (b : FuncBody) : Bool := match b with
  | .stmts _ => true
  | _ => false
/-- a def as it should stand -/
noncomputable def fnB (K : Frag) (a : Addr) (cells : Bool) : Bool := isS (K.lookup a) fun o => dtfunc o.data fun fd => isStmts fd.body && (Nat.beq fd.globals mainGlobals && (Nat.beq fd.builtins builtinsNs && (codeIn K fd.code fd.qualname && (!fd.scope.isCoroutine && (isFn fd.scope.kind && (cells || fd.scope.names.all notCell))))))
structure FnFacts (K : Frag) (a : Addr) (cells : Bool) : Prop where
  obj : ∃ o, K.lookup a = some o ∧ o.data = .func (fdOf K a)
  body : (fdOf K a).body = .stmts (bodyOf (fdOf K a))
  glob : (fdOf K a).globals = mainGlobals
  blt : (fdOf K a).builtins = builtinsNs
  code : codeIn K (fdOf K a).code (fdOf K a).qualname = true
  co : (fdOf K a).scope.isCoroutine = false
  kind : (fdOf K a).scope.kind = .function
  cell : cells = false → ∀ x ∈ (fdOf K a).scope.names, x.2 ≠ .cell
theorem body_out {fd : FuncData} (h : isStmts fd.body = true) : fd.body = .stmts (bodyOf fd) := by
  unfold bodyOf
  cases hb : fd.body with
  | stmts b => rfl
  | _ => rw [hb] at h; exact nomatch h
theorem notCell_out {p : Str × NameKind} (h : notCell p = true) : p.2 ≠ .cell := fun e => by unfold notCell at h; rw [e] at h; exact nomatch h
theorem fnB_out {K : Frag} {a : Addr} {cells : Bool} (h : fnB K a cells = true) : FnFacts K a cells :=
  isS_el h fun o ho h => dtfunc_el h fun fd hd h => have ⟨h1, h⟩ := and_t h; have ⟨h2, h⟩ := and_t h; have ⟨h3, h⟩ := and_t h; have ⟨h4, h⟩ := and_t h; have ⟨h5, h⟩ := and_t h; have ⟨h6, h7⟩ := and_t h; by
    have e := fdOf_eq ho hd
    subst e
    exact ⟨⟨o, ho, hd⟩, body_out h1, beq_t h2, beq_t h3, h4, not_t h5, isFn_out h6, fun hc x hx => notCell_out (List.all_eq_true.mp ((or_t h7).resolve_left (ne_true_of_eq_false hc)) x hx)⟩

/-- how the arguments are bound -/
noncomputable def BindK (K : Frag) (a : Addr) (ps : List Str) : Prop := ∀ S (vals : List Value), vals.length = ps.length → peek K S (bindArgs (fdOf K a) ⟨vals, []⟩) = some (ps.zip vals)

section
variable {cx : Cx} {θ : Th} {X ρ ρ' : List Addr} {H H' : AH} {s s' s'' : Shared} {A : Around} {v : AV} {x y z : Value} {E : Value → Shared → Prop}
theorem hand_of (C : COk cx) {a : Addr} {ps : List Str} (F : FnFacts cx.K a false) (B : BindK cx.K a ps) (hl : ps.all (isLoc (fdOf cx.K a).scope.names) = true) : HandOk cx a (fdOf cx.K a) (bodyOf (fdOf cx.K a)) ps where
  obj := let ⟨_, e, d⟩ := F.obj; ⟨_, C.K _ _ e, d⟩
  body := F.body
  glob := F.glob
  blt := F.blt
  code := F.code
  bind := fun s vals hK hn => kp_binds (C.K.keeps hK) fun S => B S vals hn
  co := F.co
  kind := F.kind
  cell := F.cell rfl
  loc := fun p hp => isLoc_out (List.all_eq_true.mp hl p hp)

/-- super() in a def's text -/
noncomputable def codeFile (K : Frag) (file : Str) (cd : Value) : Bool := vlref cd fun c => isS (K.lookup c) fun o => dtfields o.data fun vs => isS vs.toList[2]? fun v => vlstr v fun f _ => file == f
noncomputable def isFree (ns : Names) (x : Str) : Bool := match slot x 0 ns with
  | some (_, .free) => true
  | _ => false
theorem isFree_out {ns : Names} {x : Str} (h : isFree ns x = true) : ns.lookup x = some .free := by
  change (match slot x 0 ns with | some (_, .free) => true | _ => false) = true at h
  cases hs : slot x 0 ns with
  | none => rw [hs] at h; exact nomatch h
  | some p =>
    rw [hs] at h
    obtain ⟨i, k⟩ := p
    cases k with
    | free => exact slot_lookup hs
    | _ => exact nomatch h
noncomputable def superFd (K : Frag) (file me : Str) (fd : FuncData) : Bool := isGlobal fd.scope.names "super" && (isFree fd.scope.names "__class__" && (fd.closure.lookup ("__class__" : Str) == some 102 && ((isC (fd.params.posonlyargs ++ fd.params.args) fun ar _ => se ar.arg me) && (isLoc fd.scope.names me && codeFile K file fd.code))))
structure SuperK (cx : Cx) : Prop where
  cell : ∃ o, cx.K.lookup 102 = some o ∧ o.data = .cell (some (.ref 178))
  c178 : ∃ o cd, cx.K.lookup 178 = some o ∧ o.data = .cls cd ∧ clsIn cx.K 178 = some cd ∧ (cd.mro.dropWhile (· != .ref 178)).drop 1 = [.type "list", .type "object"]
  sub : mroIn cx.K 178 (.ref 178) = some true
  mg : cx.mg "super" = none
  mb : cx.mb "super" = some (.type "super")
  top : (cx.prog.main.scope.names.lookup ("super" : Str)).isSome = false
  statics : nsIn cx.K cStatics "thirdparty.any" = some none
  acc : AccOk cx.K
theorem super_of (P : SuperK cx) {fd : FuncData} {me : Str} (h : superFd cx.K cx.prog.main.file me fd = true) : SuperOk cx fd me :=
  have ⟨h1, h⟩ := and_t h; have ⟨h2, h⟩ := and_t h; have ⟨h3, h⟩ := and_t h; have ⟨h4, h⟩ := and_t h; have ⟨h5, h⟩ := and_t h;
  isC_el h4 fun ar r e4 h4 => vlref_el h fun c hc h => isS_el h fun o ho h => dtfields_el h fun vs hv h => isS_el h fun u hu h => vlstr_el h fun f t hf h =>
  ⟨isGlobal_out h1, isFree_out h2, beq_iff_eq.mp h3, ⟨ar, by rw [e4]; rfl, se_iff.mp h4⟩, isLoc_out h5, ⟨c, o, vs, f, t, hc, ho, hv, Array.getElem?_toList.symm.trans (hf ▸ hu), h⟩, P.cell, P.c178, P.sub, P.mg, P.mb, P.top, P.statics, P.acc⟩
end
end Mine
namespace Mine
open PySem PySem.W PyProof.Rows PySem.Calls

noncomputable def strAt (o : Option (Option Value)) (x : Str) : Bool := isS o fun o => isS o fun v => vlstr v fun y _ => se y x
noncomputable def intAt (o : Option (Option Value)) (i : Int) : Bool := isS o fun o => isS o fun v => vlint v fun j _ => ieq j i
theorem strAt_out {o : Option (Option Value)} {x : Str} (h : strAt o x = true) : ∃ t, o = some (some (.str x t)) := isS_el h fun _ e1 h => isS_el h fun _ e2 h => vlstr_el h fun _ t e3 h => ⟨t, by rw [e1, e2, e3, se_iff.mp h]⟩
theorem intAt_out {o : Option (Option Value)} {i : Int} (h : intAt o i = true) : ∃ t, o = some (some (.int i t)) := isS_el h fun _ e1 h => isS_el h fun _ e2 h => vlint_el h fun _ t e3 h => ⟨t, by rw [e1, e2, e3, ieq_iff.mp h]⟩
noncomputable def isStrK (e : DictEntry) : Bool := vlstr e.key fun _ _ => true
noncomputable def hashK (P : Params) (e : DictEntry) : Int := match e.key with
  | .str x _ => PyData.keyHash P x
  | _ => 0
noncomputable def dictD (d : Data) : Option (List DictEntry) := match d with
  | .dict es _ => some es.toList
  | _ => none
noncomputable def dictAtK (K : Frag) (a : Addr) : Option (List DictEntry) := ob (K.lookup a) fun o => cond (o.cls == .type "dict" && (o.dict.isNone && o.slots.isEmpty)) (dictD o.data) none
noncomputable def noneNames : List Str := ["len", "ord", "chr", "str", "range", "next", "super", "sum"]
noncomputable def keepAddrs : List Nat := [91, 42, 56, 122, 130, 160, 167, 175, 138, 77]
noncomputable def defAddrs : List Nat := [227, 91, 122, 234, 206, 196, 189, 35, 42, 56, 130, 160, 167, 220, 241, 248]
noncomputable def handAddrs : List Nat := [115, 138, 145, 152, 175, 77]
noncomputable def fnAddrs : List Nat := defAddrs ++ handAddrs
noncomputable def argOf (a : Nat) : List Str := cond (Nat.beq a 227) ["text", "signs", "head", "rules", "faults"] (cond (Nat.beq a 91 || Nat.beq a 122) ["self", "fws", "string"] (cond (Nat.beq a 234) ["symbol", "rules", "base", "numbers", "former", "latter"] (cond (Nat.beq a 206) ["x"] (cond (Nat.beq a 196 || Nat.beq a 189) ["a", "b"]
  (cond (Nat.beq a 35) ["self", "headerlen", "maxlen", "continuation_ws", "splitchars"] (cond (Nat.beq a 42) ["self", "linesep"] (cond (Nat.beq a 56 || Nat.beq a 167) ["self"] (cond (Nat.beq a 130) ["self", "i"] (cond (Nat.beq a 160) ["self", "startval"] (cond (Nat.beq a 220) ["marks", "tail"]
  (cond (Nat.beq a 241) ["ops", "ranks", "numbers", "former", "latter"] ["numbers", "former", "latter"])))))))))))

/-- what is asked of the written heap -/
structure Facts (prog : Program) (P : Params) (K : Frag) : Prop where
  -- the own list's class
  a1 : findIn K (.ref 178) "__getitem__" = some (some (.builtin "list.__getitem__"))
  a2 : findIn K (.ref 178) "__setitem__" = some (some (.builtin "list.__setitem__"))
  a3 : findIn K (.ref 178) "__iter__" = some (some (.builtin "list.__iter__"))
  a4 : subIn K (.ref 178) (.type "list") = some true
  a5 : noSeq K 178 = true
  c1 : findIn K (.ref 94) "__setattr__" = some (some (.builtin "object.__setattr__"))
  c2 : attrs.map (findIn K (.ref 94)) = attrs.map fun _ => some none
  c3 : hasDictIn K 94 = true
  c4 : (clsIn K 94).map (·.mro) = some [.ref 94, .type "object"]
  d1 : findIn K (.ref 178) "__setattr__" = some (some (.builtin "object.__setattr__"))
  d2 : attrs.map (findIn K (.ref 178)) = attrs.map fun _ => some none
  d3 : hasDictIn K 178 = true
  d4 : (clsIn K 178).map (·.mro) = some [.ref 178, .type "list", .type "object"]
  m1 : findIn K (.ref 94) "__getattribute__" = some (some (.builtin "object.__getattribute__"))
  m2 : findIn K (.ref 94) "__getattr__" = some none
  m3 : findIn K (.ref 178) "__getattribute__" = some (some (.builtin "list.__getattribute__"))
  m4 : findIn K (.ref 178) "__getattr__" = some none
  m5 : ([("_append_chunk", 91), ("_str", 42), ("newline", 56), ("_maxlengths", 77)] : List (Str × Nat)).map (fun p => (findIn K (.ref 94) p.1, typeIn K (.ref p.2))) = ([("_append_chunk", 91), ("_str", 42), ("newline", 56), ("_maxlengths", 77)] : List (Str × Nat)).map fun p => (some (some (.ref p.2)), some (.type "function"))
  m6 : ([("push", 122), ("pop_from", 130), ("reset", 160), ("is_onlyws", 167), ("part_count", 175), ("pop", 138)] : List (Str × Nat)).map (fun p => (findIn K (.ref 178) p.1, typeIn K (.ref p.2))) = ([("push", 122), ("pop_from", 130), ("reset", 160), ("is_onlyws", 167), ("part_count", 175), ("pop", 138)] : List (Str × Nat)).map fun p => (some (some (.ref p.2)), some (.type "function"))
  m7 : findIn K (.ref 178) "append" = some (some (.builtin "list.append"))
  p1 : subIn K (.ref 178) (.type "module") = some false
  p2 : typeIn K (.ref 178) = some (.type "type")
  p3 : (clsIn K 178).map (fun cd => cd.qualname.toString) = some "_Accumulator"
  q1 : specialIn K (.ref 122) "__get__" = some (some (.builtin "function.__get__"))
  q2 : takesIn K (.ref 122) = some false
  q3 : fnIn K 122 = true
  o1 : findIn K (.ref 178) "__len__" = some (some (.ref 145))
  o2 : typeIn K (.ref 145) = some (.type "function")
  o3 : findIn K (.ref 178) "__bool__" = some none
  o4 : findIn K (.ref 178) "__str__" = some (some (.ref 152))
  o5 : PySem.W.isFn K (.ref 152) = true
  i1 : makesLIn K 178 = true
  i2 : findIn K (.ref 178) "__init__" = some (some (.ref 115))
  i3 : typeIn K (.ref 115) = some (.type "function")
  g1 : makesIn K 94 = true
  g2 : findIn K (.ref 94) "__init__" = some (some (.ref 35))
  g3 : typeIn K (.ref 35) = some (.type "function")
  -- super
  s1 : (K.lookup 102).map (·.data) = some (.cell (some (.ref 178)))
  s2 : mroIn K 178 (.ref 178) = some true
  s3 : (prog.main.scope.names.lookup ("super" : Str)).isSome = false
  s4 : nsIn K cStatics "thirdparty.any" = some none
  s5 : ([115, 138, 175] : List Nat).map (fun a => superFd K prog.main.file "self" (fdOf K a)) = ([115, 138, 175] : List Nat).map fun _ => true
  -- names
  n1 : strAt (nsIn K mainGlobals "NL") ⟨#[10]⟩ = true
  n2 : strAt (nsIn K mainGlobals "EMPTYSTRING") ⟨#[]⟩ = true
  n3 : intAt (nsIn K mainGlobals "NT_OFFSET") 256 = true
  n4 : nsIn K mainGlobals "EXACT_TOKEN_TYPES" = some (some (.ref 197))
  n5 : gtops.map (fun p => nsIn K mainGlobals p.1) = gtops.map fun p => some (some (.ref p.2))
  n6 : noneNames.map (nsIn K mainGlobals) = noneNames.map fun _ => some none
  n7 : nsIn K mainGlobals "__builtins__" = some (some (.ref 4))
  k1 : (gtops.map (·.2)).map (fun a => keepIn K (.ref a)) = (gtops.map (·.2)).map fun _ => true
  k2 : keepAddrs.map (fun a => keepIn K (.ref a)) = keepAddrs.map fun _ => true
  b1 : (K.lookup 4).map (fun o => (o.cls, o.dict)) = some (.type "module", some builtinsNs)
  b2 : (K.lookup 4).map (·.data) = some .plain
  -- the table of the signs
  t1 : (dictAtK K 197).isSome = true
  t2 : (dictAtK K 197).map (·.map (·.hash)) = (dictAtK K 197).map (·.map (hashK P))
  t3 : (dictAtK K 197).map (·.all isStrK) = some true
  t4 : (List.range 13).map (fun k => intAt (nsIn K 197 ⟨#[signs13.getD k 0]⟩) (Int.ofNat (14 + k))) = (List.range 13).map fun _ => true
  -- the defs
  f1 : fnAddrs.map (fun a => fnB K a false) = fnAddrs.map fun _ => true
  f2 : handAddrs.map (fun a => (fdOf K a).scope.isGenerator) = handAddrs.map fun a => Nat.beq a 77
  f3 : defAddrs.map (fun a => ((fdOf K a).scope.isGenerator, (fdOf K a).closure)) = defAddrs.map fun _ => (false, [])
  f4 : defs.map (fun p => p.2.2) = defs.map fun p => some ((fdOf K p.1).params, bodyOf (fdOf K p.1), (fdOf K p.1).scope)
  h1 : initB (bodyOf (fdOf K 115)) = true
  h2 : popB (bodyOf (fdOf K 138)) = true
  h3 : retB lenE (bodyOf (fdOf K 145)) = true
  h4 : retB (joinB (genB (joinB tup2B) "EMPTYSTRING")) (bodyOf (fdOf K 152)) = true
  h5 : countB (bodyOf (fdOf K 175)) = true
  h6 : roomsB (bodyOf (fdOf K 77)) = true
  h7 : (fdOf K 145).code = .ref 144
  h8 : (fdOf K 152).code = .ref 151
  h9 : isGlobal (fdOf K 145).scope.names "sum" = true
  h10 : isGlobal (fdOf K 152).scope.names "EMPTYSTRING" = true
  h11 : isGlobal (fdOf K 77).scope.names "len" = true
  h12 : handAddrs.map (fun a => isLoc (fdOf K a).scope.names "self") = handAddrs.map fun _ => true
  h13 : isLoc (fdOf K 115).scope.names "initial_size" = true
  x1 : codeAtIn K 144 140 = true
  x2 : codeAtIn K 151 147 = true
  -- how arguments are bound
  v1 : ∀ S (a1 a2 : Value), peek K S (bindArgs (fdOf K 115) ⟨[a1, a2], []⟩) = some ((["self", "initial_size"] : List Str).zip [a1, a2])
  v2 : ∀ S (a1 : Value), peek K S (bindArgs (fdOf K 138) ⟨[a1], []⟩) = some ((["self"] : List Str).zip [a1])
  v3 : ∀ S (a1 : Value), peek K S (bindArgs (fdOf K 145) ⟨[a1], []⟩) = some ((["self"] : List Str).zip [a1])
  v4 : ∀ S (a1 : Value), peek K S (bindArgs (fdOf K 152) ⟨[a1], []⟩) = some ((["self"] : List Str).zip [a1])
  v5 : ∀ S (a1 : Value), peek K S (bindArgs (fdOf K 175) ⟨[a1], []⟩) = some ((["self"] : List Str).zip [a1])
  v6 : ∀ S (a1 : Value), peek K S (bindArgs (fdOf K 77) ⟨[a1], []⟩) = some ((["self"] : List Str).zip [a1])
  w0 : defAddrs.map (fun a => (fdOf K a).params.args.map (·.arg)) = defAddrs.map argOf
  w1 : ∀ S (a1 a2 a3 a4 a5 : Value), peek K S (bindArgs (fdOf K 227) ⟨[a1, a2, a3, a4, a5], []⟩) = some ((["text", "signs", "head", "rules", "faults"] : List Str).zip [a1, a2, a3, a4, a5])
  w2 : ∀ S (a1 a2 a3 : Value), peek K S (bindArgs (fdOf K 91) ⟨[a1, a2, a3], []⟩) = some ((["self", "fws", "string"] : List Str).zip [a1, a2, a3])
  w3 : ∀ S (a1 a2 a3 : Value), peek K S (bindArgs (fdOf K 122) ⟨[a1, a2, a3], []⟩) = some ((["self", "fws", "string"] : List Str).zip [a1, a2, a3])
  w4 : ∀ S (a1 a2 a3 a4 a5 a6 : Value), peek K S (bindArgs (fdOf K 234) ⟨[a1, a2, a3, a4, a5, a6], []⟩) = some ((["symbol", "rules", "base", "numbers", "former", "latter"] : List Str).zip [a1, a2, a3, a4, a5, a6])
  w5 : ∀ S (a1 : Value), peek K S (bindArgs (fdOf K 206) ⟨[a1], []⟩) = some ((["x"] : List Str).zip [a1])
  w6 : ∀ S (a1 a2 : Value), peek K S (bindArgs (fdOf K 196) ⟨[a1, a2], []⟩) = some ((["a", "b"] : List Str).zip [a1, a2])
  w7 : ∀ S (a1 a2 : Value), peek K S (bindArgs (fdOf K 189) ⟨[a1, a2], []⟩) = some ((["a", "b"] : List Str).zip [a1, a2])
  w8 : ∀ S (a1 a2 a3 a4 a5 : Value), peek K S (bindArgs (fdOf K 35) ⟨[a1, a2, a3, a4, a5], []⟩) = some ((["self", "headerlen", "maxlen", "continuation_ws", "splitchars"] : List Str).zip [a1, a2, a3, a4, a5])
  w9 : ∀ S (a1 a2 : Value), peek K S (bindArgs (fdOf K 42) ⟨[a1, a2], []⟩) = some ((["self", "linesep"] : List Str).zip [a1, a2])
  w10 : ∀ S (a1 : Value), peek K S (bindArgs (fdOf K 56) ⟨[a1], []⟩) = some ((["self"] : List Str).zip [a1])
  w11 : ∀ S (a1 a2 : Value), peek K S (bindArgs (fdOf K 130) ⟨[a1, a2], []⟩) = some ((["self", "i"] : List Str).zip [a1, a2])
  w12 : ∀ S (a1 a2 : Value), peek K S (bindArgs (fdOf K 160) ⟨[a1, a2], []⟩) = some ((["self", "startval"] : List Str).zip [a1, a2])
  w13 : ∀ S (a1 : Value), peek K S (bindArgs (fdOf K 167) ⟨[a1], []⟩) = some ((["self"] : List Str).zip [a1])
  w14 : ∀ S (a1 a2 : Value), peek K S (bindArgs (fdOf K 220) ⟨[a1, a2], []⟩) = some ((["marks", "tail"] : List Str).zip [a1, a2])
  w15 : ∀ S (a1 a2 a3 a4 a5 : Value), peek K S (bindArgs (fdOf K 241) ⟨[a1, a2, a3, a4, a5], []⟩) = some ((["ops", "ranks", "numbers", "former", "latter"] : List Str).zip [a1, a2, a3, a4, a5])
  w16 : ∀ S (a1 a2 a3 : Value), peek K S (bindArgs (fdOf K 248) ⟨[a1, a2, a3], []⟩) = some ((["numbers", "former", "latter"] : List Str).zip [a1, a2, a3])
  w17 : ∀ S (v : Value), peek K S (bindArgs (fdOf K 160) ⟨[v], []⟩) = some [(("self" : Str), v), (("startval" : Str), Value.none)]

theorem map_at {α β : Type} {f g : α → β} {l : List α} (h : l.map f = l.map g) {a : α} (ha : a ∈ l) : f a = g a := by
  induction ha with
  | head r => exact (List.cons.inj h).1
  | tail b _ ih => exact ih (List.cons.inj h).2
theorem all_cons {α : Type} {p : α → Prop} {a : α} {l : List α} (h : p a) (t : ∀ x ∈ l, p x) : ∀ x ∈ a :: l, p x := fun _ m => (List.mem_cons.mp m).elim (fun e => e ▸ h) (t _)
theorem all_none {α : Type} {p : α → Prop} : ∀ x ∈ ([] : List α), p x := fun _ m => nomatch m
end Mine
namespace Mine
open PySem PySem.W PyProof.Rows PySem.Calls

noncomputable abbrev noTable : Obj := { cls := .none, data := .fields #[] }
/-- all that the walk stands on -/
structure Base (prog : Program) (w : World) (h₁ : Heap) (mg mb : Str → Option Value) (K : Frag) : Prop where
  X : K.In h₁
  T : ∃ v : Program × List Str, TopRead v.1 v.2 mg mb h₁
  F : Facts prog w.params (dropT K)
  t1 : List.lookup 140 K = some noTable
  t2 : List.lookup 147 K = some noTable

theorem in_dropT' {K : Frag} {h : Heap} (X : K.In h) : (dropT K).In h := fun a o e => X _ _ (lookup_dropT e).1
theorem mapSome {α β : Type} {o : Option α} {f : α → β} {b : β} (h : o.map f = some b) : ∃ a, o = some a ∧ f a = b := by
  cases o with
  | none => cases h
  | some a => exact ⟨a, rfl, Option.some.inj h⟩

theorem boot_len' : bootBuiltins "len" = some (.builtin "len") := by kernel_rfl
theorem boot_ord' : bootBuiltins "ord" = some (.builtin "ord") := by kernel_rfl
theorem boot_chr' : bootBuiltins "chr" = some (.builtin "chr") := by kernel_rfl
theorem boot_str' : bootBuiltins "str" = some (.type "str") := by kernel_rfl
theorem boot_range' : bootBuiltins "range" = some (.type "range") := by kernel_rfl
theorem boot_next' : bootBuiltins "next" = some (.builtin "next") := by kernel_rfl
theorem boot_super' : bootBuiltins "super" = some (.type "super") := by kernel_rfl
theorem boot_sum' : bootBuiltins "sum" = some (.builtin "sum") := by kernel_rfl

section
variable {prog : Program} {w : World} {h₁ : Heap} {mg mb : Str → Option Value} {K : Frag}

theorem Base.cok (B : Base prog w h₁ mg mb K) : COk (mkCx prog w h₁ mg mb K) where
  tabs := fun T hT => by
    rcases List.mem_cons.mp hT with rfl | hT
    · exact Heap.lt_size (B.X _ _ B.t1)
    · rcases List.mem_cons.mp hT with rfl | hT
      · exact Heap.lt_size (B.X _ _ B.t2)
      · cases hT
  K := in_dropT B.X
  top := let ⟨v, T⟩ := B.T; ⟨v, topRead_hide T⟩
theorem Base.mgS (B : Base prog w h₁ mg mb K) {n : Str} {v : Value} (e : nsIn (dropT K) mainGlobals n = some (some v)) : mg n = some v := let ⟨_, T⟩ := B.T; mg_of (in_dropT' B.X) T.g e
theorem Base.mgN (B : Base prog w h₁ mg mb K) {n : Str} (e : n ∈ noneNames) : mg n = none := let ⟨_, T⟩ := B.T; mg_none_of (in_dropT' B.X) T.g (map_at B.F.n6 e)
theorem Base.mbS (B : Base prog w h₁ mg mb K) {n : Str} {v : Value} (hn : n ≠ "__name__") (e : bootBuiltins n = some v) : mb n = some v := let ⟨_, T⟩ := B.T; (T.builtins n hn).trans e

theorem Base.accOk (B : Base prog w h₁ mg mb K) : AccOk (dropT K) := ⟨B.F.a1, B.F.a2, B.F.a3, B.F.a4, B.F.a5⟩
theorem Base.cls94 (B : Base prog w h₁ mg mb K) : ClsOk (dropT K) 94 := by
  obtain ⟨cd, h1, h2⟩ := mapSome B.F.c4
  exact ⟨B.F.c1, fun nm h => map_at B.F.c2 h, B.F.c3, cd, h1, fun self => by rw [h2]; exact refuse_page self, by rw [h2]; rfl, by rw [h2]; decide⟩
theorem Base.cls178 (B : Base prog w h₁ mg mb K) : ClsOk (dropT K) 178 := by
  obtain ⟨cd, h1, h2⟩ := mapSome B.F.d4
  exact ⟨B.F.d1, fun nm h => map_at B.F.d2 h, B.F.d3, cd, h1, fun self => by rw [h2]; exact refuse_acc self, by rw [h2]; rfl, by rw [h2]; decide⟩
theorem Base.meth (B : Base prog w h₁ mg mb K) : MethOk (dropT K) :=
  ⟨B.F.m1, B.F.m2, B.F.m3, B.F.m4, fun p hp => have h := map_at B.F.m5 hp; ⟨congrArg Prod.fst h, congrArg Prod.snd h⟩, fun p hp => have h := map_at B.F.m6 hp; ⟨congrArg Prod.fst h, congrArg Prod.snd h⟩, B.F.m7⟩
theorem Base.popOk (B : Base prog w h₁ mg mb K) : PopOk (dropT K) := ⟨B.F.p1, B.F.p2, let ⟨cd, a, b⟩ := mapSome B.F.p3; ⟨cd, a, b⟩⟩
theorem Base.push (B : Base prog w h₁ mg mb K) : PushOk (dropT K) := by
  have h := B.meth.acc ("push", 122) (.head _)
  exact ⟨B.F.d3, B.F.q1, B.F.q2, B.F.q3, h.2, h.1⟩
theorem Base.gen (B : Base prog w h₁ mg mb K) : GenTop (mkCx prog w h₁ mg mb K) := by
  obtain ⟨o, h1, h2⟩ := mapSome B.F.b1
  obtain ⟨o', h1', h3⟩ := mapSome B.F.b2
  rw [h1] at h1'
  cases h1'
  exact ⟨B.mgS B.F.n7, o, h1, congrArg Prod.fst h2, congrArg Prod.snd h2, h3⟩
theorem Base.tab1 (B : Base prog w h₁ mg mb K) : TabIn (mkCx prog w h₁ mg mb K) 144 140 := ⟨by show 140 ∈ tabsL; decide, B.F.x1, ⟨_, table_of (in_dropT' B.X) B.F.x1 (B.X _ _ B.t1)⟩, by decide⟩
theorem Base.tab2 (B : Base prog w h₁ mg mb K) : TabIn (mkCx prog w h₁ mg mb K) 151 147 := ⟨by show 147 ∈ tabsL; decide, B.F.x2, ⟨_, table_of (in_dropT' B.X) B.F.x2 (B.X _ _ B.t2)⟩, by decide⟩
theorem Base.fn (B : Base prog w h₁ mg mb K) {a : Nat} (h : a ∈ fnAddrs) : FnFacts (dropT K) a false := fnB_out (map_at B.F.f1 h)
/-- a claim of all lists of a length -/
noncomputable def AllN : Nat → (List Value → Prop) → Prop
  | 0, P => P []
  | n + 1, P => ∀ a, AllN n fun l => P (a :: l)
theorem allN {n : Nat} : ∀ {P : List Value → Prop}, AllN n P → ∀ l, l.length = n → P l := by
  induction n with
  | zero => exact fun h l e => List.length_eq_zero_iff.mp e ▸ h
  | succ n ih =>
    intro P h l e
    cases l with
    | nil => exact nomatch e
    | cons a l => exact ih (h a) l (Nat.succ.inj e)
theorem bindN {K : Frag} {a : Addr} {ps : List Str} (h : ∀ S, AllN ps.length fun vals => peek K S (bindArgs (fdOf K a) ⟨vals, []⟩) = some (ps.zip vals)) : BindK K a ps := fun S => allN (h S)
theorem Base.hand1 (B : Base prog w h₁ mg mb K) {a : Nat} (h : a ∈ handAddrs) (hb : BindK (dropT K) a ["self"]) : HandOk (mkCx prog w h₁ mg mb K) a (fdOf (dropT K) a) (bodyOf (fdOf (dropT K) a)) ["self"] :=
  hand_of B.cok (B.fn (List.mem_append_right _ h)) hb (and_i (map_at B.F.h12 h) rfl)
theorem Base.gens (B : Base prog w h₁ mg mb K) {a : Nat} (h : a ∈ handAddrs) : (fdOf (dropT K) a).scope.isGenerator = Nat.beq a 77 := map_at B.F.f2 h
theorem Base.superK (B : Base prog w h₁ mg mb K) : SuperK (mkCx prog w h₁ mg mb K) := by
  obtain ⟨cd, h1, h2⟩ := mapSome B.F.d4
  obtain ⟨o, ho, hd⟩ : ∃ o, List.lookup 178 (dropT K) = some o ∧ o.data = .cls cd := by
    unfold clsIn at h1
    split at h1
    · rename_i hl; exact ⟨_, hl, congrArg Data.cls (Option.some.inj h1)⟩
    · exact no_el h1
  exact ⟨let ⟨o, a, b⟩ := mapSome B.F.s1; ⟨o, a, b⟩, ⟨o, cd, ho, hd, h1, by rw [h2]; rfl⟩, B.F.s2, B.mgN (by decide +kernel), B.mbS (by decide) boot_super', B.F.s3, B.F.s4, B.accOk⟩
theorem Base.supers (B : Base prog w h₁ mg mb K) {a : Nat} (h : a ∈ ([115, 138, 175] : List Nat)) : SuperOk (mkCx prog w h₁ mg mb K) (fdOf (dropT K) a) "self" := super_of B.superK (map_at B.F.s5 h)
theorem Base.keepF (B : Base prog w h₁ mg mb K) {a : Nat} (h : a ∈ keepAddrs) : KeepF (mkCx prog w h₁ mg mb K) (.ref a) := fun _ h' X => keeps_K (map_at B.F.k2 h) h' X
theorem Base.count (B : Base prog w h₁ mg mb K) : CountOk (mkCx prog w h₁ mg mb K) := ⟨_, _, B.hand1 (by decide) (bindN B.F.v5), B.supers (by decide), B.gens (by decide), B.F.h5⟩
theorem Base.popFn (B : Base prog w h₁ mg mb K) : PopFn (mkCx prog w h₁ mg mb K) := ⟨⟨_, _, B.hand1 (by decide) (bindN B.F.v2), B.supers (by decide), B.gens (by decide), B.F.h2⟩, B.keepF (by decide), B.popOk⟩
theorem Base.init (B : Base prog w h₁ mg mb K) : InitOk (mkCx prog w h₁ mg mb K) := by
  refine ⟨⟨_, _, hand_of B.cok (B.fn (by decide)) (bindN B.F.v1) ?_, B.supers (by decide), B.gens (by decide), B.F.h1⟩, B.F.i1, B.F.i2, B.F.i3⟩
  exact and_i (map_at B.F.h12 (a := 115) (by decide)) (and_i B.F.h13 rfl)
theorem Base.page (B : Base prog w h₁ mg mb K) : PageOk (mkCx prog w h₁ mg mb K) := ⟨B.F.g1, B.F.g2, B.F.g3⟩
theorem Base.lenFn (B : Base prog w h₁ mg mb K) : LenFn (mkCx prog w h₁ mg mb K) := ⟨⟨_, _, B.hand1 (by decide) (bindN B.F.v3), B.gens (by decide), B.F.h3, B.F.h7, isGlobal_out B.F.h9⟩, B.tab1, B.gen, ⟨B.mgN (by decide +kernel), B.mbS (by decide) boot_sum'⟩, ⟨B.mgN (by decide +kernel), B.mbS (by decide) boot_len'⟩⟩
theorem Base.strFn (B : Base prog w h₁ mg mb K) : StrFn (mkCx prog w h₁ mg mb K) := ⟨⟨_, _, B.hand1 (by decide) (bindN B.F.v4), B.gens (by decide), B.F.h4, B.F.h8, isGlobal_out B.F.h10⟩, B.tab2, B.gen, let ⟨t, h⟩ := strAt_out B.F.n2; ⟨t, B.mgS h⟩⟩
theorem Base.roomFn (B : Base prog w h₁ mg mb K) : RoomFn (mkCx prog w h₁ mg mb K) := ⟨_, _, B.hand1 (by decide) (bindN B.F.v6), B.gens (by decide), B.F.h6, isGlobal_out B.F.h11⟩
theorem Base.own (B : Base prog w h₁ mg mb K) : OwnOk (mkCx prog w h₁ mg mb K) := ⟨B.F.o1, B.F.o2, B.F.o3, B.F.o4, B.F.o5, B.lenFn, B.strFn, B.accOk, B.cls178, B.cls94, B.meth⟩

theorem keysLit {P : Params} {es : List DictEntry} (h1 : es.map (·.hash) = es.map (hashK P)) (h2 : es.all isStrK = true) : KeysLit P es := by
  induction es with
  | nil => trivial
  | cons e r ih =>
    obtain ⟨h3, h4⟩ := and_t h2
    refine ⟨vlstr_el h3 fun x t hk _ => ⟨x, t, hk, (List.cons.inj h1).1.trans ?_⟩, ih (List.cons.inj h1).2 h4⟩
    unfold hashK
    rw [hk]
theorem dictAtK_out {K : Frag} {a : Addr} {es : List DictEntry} (h : dictAtK K a = some es) : ∃ ds n, es = ds.toList ∧ K.lookup a = some { cls := .type "dict", dict := none, data := .dict ds n } := by
  refine ob_el h fun o ho h => cnd_el h fun hc h => ?_
  obtain ⟨c, d, dt, sl⟩ := o
  obtain ⟨h1, h2⟩ := and_t hc
  obtain ⟨h2, h3⟩ := and_t h2
  obtain rfl := (show c = _ from beq_iff_eq.mp h1)
  obtain rfl := (show d = none from Option.isNone_iff_eq_none.mp h2)
  obtain rfl := (show sl = #[] from Array.isEmpty_iff.mp h3)
  cases dt with
  | dict ds n => exact ⟨ds, n, (Option.some.inj h).symm, ho⟩
  | _ => exact no_el h
theorem Base.dict (B : Base prog w h₁ mg mb K) : DictOk (mkCx prog w h₁ mg mb K) := by
  obtain ⟨l, hl⟩ := Option.isSome_iff_exists.mp B.F.t1
  have h2 := B.F.t2
  have h3 := B.F.t3
  rw [hl] at h2 h3
  obtain ⟨es, n, rfl, hlk⟩ := dictAtK_out hl
  obtain ⟨o, es', ep, ho, hex, hd, hkeys, _⟩ := mapOf_K (prog := prog) (w := w) (in_dropT B.X) hlk (keysLit (Option.some.inj h2) (Option.some.inj h3))
  obtain rfl := Option.some.inj ((in_dropT B.X _ _ hlk).symm.trans ho)
  cases hd
  exact ⟨_, es, n, ho, hex, rfl, hkeys, fun k hk13 => let ⟨t, ht⟩ := intAt_out (map_at B.F.t4 (List.mem_range.mpr hk13)); ⟨t, find_K hlk ht⟩⟩
end
end Mine
namespace Mine
open PySem PySem.W PyProof.Rows PySem.Calls

section
variable {prog : Program} {w : World} {h₁ : Heap} {mg mb : Str → Option Value} {K : Frag} {θ : Th}

theorem Base.gval (B : Base prog w h₁ mg mb K) {x : Str} {v : AV} (h : (x, v) ∈ gvals) : ∃ y, mg x = some y ∧ ∀ ρ, VRel θ ρ v y :=
  (show ∀ p ∈ gvals, ∃ y, mg p.1 = some y ∧ ∀ ρ, VRel θ ρ p.2 y from all_cons (let ⟨t, h⟩ := strAt_out B.F.n1; ⟨_, B.mgS h, fun _ => ⟨t, rfl⟩⟩) (all_cons (let ⟨t, h⟩ := strAt_out B.F.n2; ⟨_, B.mgS h, fun _ => ⟨t, rfl⟩⟩)
    (all_cons (let ⟨t, h⟩ := intAt_out B.F.n3; ⟨_, B.mgS h, fun _ => ⟨_, t, rfl, rfl⟩⟩) (all_cons ⟨_, B.mgS B.F.n4, fun _ => rfl⟩ all_none)))) (x, v) h
theorem Base.gtop (B : Base prog w h₁ mg mb K) {x : Str} {a : Nat} (h : (x, a) ∈ gtops) : mg x = some (.ref a) ∧ KeepF (mkCx prog w h₁ mg mb K) (.ref a) :=
  ⟨B.mgS (map_at B.F.n5 h), fun _ h' X => keeps_K (map_at B.F.k1 (List.mem_map_of_mem (f := (·.2)) h)) h' X⟩
theorem Base.gbuf (B : Base prog w h₁ mg mb K) {x : Str} {b : BF} (h : (x, b) ∈ gbufs) : mg x = none ∧ mb x = some (bfVal b) :=
  (show ∀ p ∈ gbufs, mg p.1 = none ∧ mb p.1 = some (bfVal p.2) from all_cons ⟨B.mgN (by decide +kernel), B.mbS (by decide) boot_len'⟩ (all_cons ⟨B.mgN (by decide +kernel), B.mbS (by decide) boot_ord'⟩
    (all_cons ⟨B.mgN (by decide +kernel), B.mbS (by decide) boot_chr'⟩ (all_cons ⟨B.mgN (by decide +kernel), B.mbS (by decide) boot_str'⟩ all_none)))) (x, b) h
theorem Base.keepM (B : Base prog w h₁ mg mb K) {kd : Nat} {n : Me} : KeepF (mkCx prog w h₁ mg mb K) (methF kd n) := by
  have bi : ∀ i, KeepF (mkCx prog w h₁ mg mb K) (.builtin i) := fun i _ _ _ => ⟨.machine, .inr (.inl rfl), Looks.of_pure rfl⟩
  cases n <;> first | exact bi _ | exact B.keepF (by decide)

theorem Base.leaf (B : Base prog w h₁ mg mb K) (O : θ.Ok) : Leaf (mkCx prog w h₁ mg mb K) θ where
  truth := fun hA S hv e => leaf_truth O B.cok B.own hA S hv e
  cmp := fun hA S ha hb ho e => leaf_cmp O hA S ha hb ho e
  gipI := fun S hv e => leaf_gipI B.cok B.dict B.accOk S hv e
  gipS := fun S hv e => leaf_gipS B.cok B.accOk S hv e
  itm := fun _ S ho hi e => leaf_itm B.cok O B.dict B.accOk S ho hi e
  slc := fun _ S ho hl hu hs e => leaf_slc B.cok O B.accOk S ho hl hu hs e
  att := fun _ S ho hn e => leaf_att B.cok B.accOk B.cls94 B.cls178 B.meth S ho hn e
  gval := fun h => B.gval h
  gtop := fun h => B.gtop h
  gbuf := fun h => B.gbuf h
  grange := ⟨B.mgN (by decide +kernel), B.mbS (by decide) boot_range'⟩
  bcall := fun hA S hv e => leaf_bcall O B.cok B.own hA S hv e
  page := fun call hA S hv e => leaf_page B.cok B.page call hA S hv e
  acc := fun hA S hv e => leaf_acc B.cok B.cls94 B.cls178 B.init hA S hv e
  getM := fun S ho hk hok hm => leaf_getM B.cok B.meth S ho hk hok hm
  keepM := fun _ => B.keepM
  prim := fun hA S ho hv hk hok hb e => leaf_prim O B.cok B.own B.count B.popFn hA S ho hv hk hok hb e
  star := fun call hA S ho hk ht hk₁ hs e => leaf_star B.cok B.accOk B.meth B.push call hA S ho hk ht hk₁ hs e
  iter := fun _ S hv e => leaf_iter S hv e
  iterI := fun _ _ i => leaf_iterI i
  range := fun _ S hv e => leaf_range S hv e
  next := fun hA S i e => leaf_next hA S i e
  unp := fun hA S hv e => leaf_unp hA S hv e
  sat := fun _ S ho hv hn e => leaf_sat B.cok B.cls94 B.cls178 S ho hv hn e
  meet := fun S ho e => leaf_meet B.cok B.meth S ho e
  keep77 := B.keepF (by decide)
  gnext := ⟨B.mgN (by decide +kernel), B.mbS (by decide) boot_next'⟩
  rooms := fun hA S ho e => leaf_rooms O B.cok B.own B.roomFn hA S ho e
  ssl := fun _ S ho hl hv hs e => leaf_ssl B.cok B.accOk S ho hl hv hs e

/-- the defs that are run by their bodies -/
theorem fn_of (B : Base prog w h₁ mg mb K) {a : Nat} {dflt : List AV} (h : a ∈ defAddrs) (hd : dflt = [] ∨ dflt = [.none]) (hb : BindK (dropT K) a (argOf a)) (hb' : dflt = [.none] → ∀ S (vals : List Value), vals.length + 1 = (argOf a).length → peek (dropT K) S (bindArgs (fdOf (dropT K) a) ⟨vals, []⟩) = some ((argOf a).zip (vals ++ [.none])))
    : FnOk (mkCx prog w h₁ mg mb K) a dflt (fdOf (dropT K) a).params (bodyOf (fdOf (dropT K) a)) (fdOf (dropT K) a).scope := by
  have F := B.fn (List.mem_append_left _ h)
  have hg := map_at B.F.f3 h
  have hps := map_at B.F.w0 h
  obtain ⟨o, ho, hod⟩ := F.obj
  refine ⟨hd, ⟨_, _, B.cok.K _ _ ho, hod, F.body, rfl, congrArg Prod.snd hg, F.glob, F.blt, F.code, fun s vals dv hK hl hdv => ?_⟩, F.co, congrArg Prod.fst hg, F.cell rfl⟩
  rw [hps]
  have hlp : (fdOf (dropT K) a).params.args.length = (argOf a).length := hps ▸ (List.length_map ..).symm
  rw [hlp] at hl
  have X := B.cok.K.keeps hK
  rcases hdv with rfl | ⟨h1, rfl⟩
  · refine kp_binds X fun S => ?_
    rw [List.append_nil]
    exact hb S vals hl
  · exact kp_binds X fun S => hb' h1 S vals hl

/-- how a def's arguments are bound -/
noncomputable def DefB (K : Frag) (p : Nat × List AV × Option (Arguments × List Stmt × Scope)) : Prop := (p.2.1 = [] ∨ p.2.1 = [.none]) ∧ BindK K p.1 (argOf p.1) ∧ (p.2.1 = [.none] → ∀ S (vals : List Value), vals.length + 1 = (argOf p.1).length → peek K S (bindArgs (fdOf K p.1) ⟨vals, []⟩) = some ((argOf p.1).zip (vals ++ [.none])))
theorem defB {K : Frag} {p : Nat × List AV × Option (Arguments × List Stmt × Scope)} (h : p.2.1 = []) (b : BindK K p.1 (argOf p.1)) : DefB K p := ⟨.inl h, b, fun e => nomatch h.symm.trans e⟩
theorem Base.defB (B : Base prog w h₁ mg mb K) : ∀ p ∈ Mine.defs, DefB (dropT K) p :=
  all_cons (Mine.defB rfl (bindN B.F.w1)) (all_cons (Mine.defB rfl (bindN B.F.w2)) (all_cons (Mine.defB rfl (bindN B.F.w3)) (all_cons (Mine.defB rfl (bindN B.F.w4)) (all_cons (Mine.defB rfl (bindN B.F.w5)) (all_cons (Mine.defB rfl (bindN B.F.w6)) (all_cons (Mine.defB rfl (bindN B.F.w7)) (all_cons (Mine.defB rfl (bindN B.F.w8)) (all_cons (Mine.defB rfl (bindN B.F.w9))
    (all_cons (Mine.defB rfl (bindN B.F.w10)) (all_cons (Mine.defB rfl (bindN B.F.w11)) (all_cons ⟨.inr rfl, bindN B.F.w12, fun _ S vals e => allN (n := 1) (P := fun vals => peek (dropT K) S (bindArgs (fdOf (dropT K) 160) ⟨vals, []⟩) = some ((argOf 160).zip (vals ++ [Value.none]))) (B.F.w17 S) vals (Nat.succ.inj e)⟩ (all_cons (Mine.defB rfl (bindN B.F.w13)) (all_cons (Mine.defB rfl (bindN B.F.w14)) (all_cons (Mine.defB rfl (bindN B.F.w15)) (all_cons (Mine.defB rfl (bindN B.F.w16)) all_none)))))))))))))))
theorem defs_addrs : Mine.defs.map (·.1) = defAddrs := rfl
theorem Base.defs (B : Base prog w h₁ mg mb K) : ∀ p ∈ Mine.defs, ∀ ar b sc, p.2.2 = some (ar, b, sc) → FnOk (mkCx prog w h₁ mg mb K) p.1 p.2.1 ar b sc := by
  intro p hp ar b sc e
  obtain ⟨h1, h2, h3⟩ := B.defB p hp
  obtain ⟨rfl, rfl, rfl⟩ := sm3 ((map_at B.F.f4 hp).symm.trans e)
  exact fn_of B (defs_addrs ▸ List.mem_map_of_mem hp) h1 h2 h3

theorem Base.snd (B : Base prog w h₁ mg mb K) (O : θ.Ok) (k : Nat) : Snd (mkCx prog w h₁ mg mb K) θ (run fnAt k) (8 * k + 8) := Mine.snd B.cok (B.leaf O) O B.defs k
end
end Mine
namespace Mine
open PySem PySem.W PyProof.Rows PySem.Calls

/-! the defs, written out -/
noncomputable def fn122 : FnI := (.mk 3 [] [(.expr (.callM (.loc 0) .append [(.tup [(.loc 1), (.loc 2)])]))])
noncomputable def fn91 : FnI := (.mk 3 [] [(.expr (.callM (.att (.loc 0) 5) .push [(.loc 1), (.loc 2)])), (.ite (.cmp (.callB .len [(.att (.loc 0) 5)]) .gt (.att (.loc 0) 0)) [(.loop 3 (.att (.loc 0) 3) [(.loop 4 (.rng [(.bin (.callM (.att (.loc 0) 5) .count []) .sub (.cst (.int (.lit (.ofNat 1))))), (.cst (.int (.lit (.ofNat 0)))), (.cst (.int (.lit (.negSucc 0))))]) [(.ite (.callM (.loc 3) .isspace []) [(.setL 1 (.itm (.itm (.att (.loc 0) 5) (.loc 4)) (.cst (.int (.lit (.ofNat 0)))))), (.ite (.bool .true [(.loc 1), (.cmp (.itm (.loc 1) (.cst (.int (.lit (.ofNat 0))))) .eq (.loc 3))]) [.brk] [])] []), (.setL 5 (.itm (.itm (.att (.loc 0) 5) (.bin (.loc 4) .sub (.cst (.int (.lit (.ofNat 1)))))) (.cst (.int (.lit (.ofNat 1)))))), (.ite (.bool .true [(.loc 5), (.cmp (.itm (.loc 5) (.cst (.int (.lit (.negSucc 0))))) .eq (.loc 3))]) [.brk] [])] [.cont]), .brk] [(.setN [1, 6] (.callM (.att (.loc 0) 5) .pop [])), (.ite (.cmp (.att (.att (.loc 0) 5) 6) .gt (.cst (.int (.lit (.ofNat 0))))) [(.expr (.callM (.loc 0) .newline [])), (.ite (.not (.loc 1)) [(.setL 1 (.cst (.str [32])))] [])] []), (.expr (.callM (.att (.loc 0) 5) .push [(.loc 1), (.loc 6)])), (.ret (.cst .none))]), (.setL 7 (.callM (.att (.loc 0) 5) .popFrom [(.loc 4)])), (.expr (.callM (.att (.loc 0) 4) .append [(.callB .str [(.att (.loc 0) 5)])])), (.expr (.callM (.att (.loc 0) 5) .reset [(.loc 7)]))] [])])
noncomputable def fn206 : FnI := (.mk 1 [] [(.ret (.cmp (.loc 0) .lt (.cst (.int (.lit (.ofNat 256))))))])
noncomputable def fn196 : FnI := (.mk 2 [] [(.aug 0 .mul (.loc 1)), (.ret (.loc 0))])
noncomputable def fn189 : FnI := (.mk 2 [] [(.aug 0 .add (.loc 1)), (.ret (.loc 0))])
noncomputable def fn234 : FnI := (.mk 6 [] [(.ite (.cmp (.callT 206 [(.loc 0)]) .is (.cst (.bool (.lit .true)))) [(.ret (.itm (.loc 3) (.bin (.loc 0) .sub (.cst (.int (.lit (.ofNat 252)))))))] []), (.setN [6, 7, 8] (.itm (.loc 1) (.bin (.loc 0) .sub (.cst (.int (.lit (.ofNat 256))))))), (.setL 9 (.callT 196 [(.itm (.loc 4) (.bin (.loc 6) .sub (.loc 2))), (.callT 234 [(.loc 7), (.loc 1), (.loc 2), (.loc 3), (.loc 4), (.loc 5)])])), (.setL 10 (.callT 196 [(.itm (.loc 5) (.bin (.loc 6) .sub (.loc 2))), (.callT 234 [(.loc 8), (.loc 1), (.loc 2), (.loc 3), (.loc 4), (.loc 5)])])), (.ret (.callT 189 [(.loc 9), (.loc 10)]))])
noncomputable def fn227 : FnI := (.mk 5 [] [(.ite (.cmp (.callB .len [(.loc 0)]) .eq (.cst (.int (.lit (.ofNat 3))))) [(.ret (.callB .ord [(.itm (.loc 0) (.cst (.int (.lit (.ofNat 1)))))]))] []), (.ite (.cmp (.callB .len [(.loc 0)]) .eq (.cst (.int (.lit (.ofNat 7))))) [(.expr (.callM (.loc 3) .append [(.tup [(.itm (.cst (.top 197)) (.itm (.loc 0) (.cst (.int (.lit (.ofNat 2)))))), (.callB .ord [(.itm (.loc 0) (.cst (.int (.lit (.ofNat 1)))))]), (.callB .ord [(.itm (.loc 0) (.cst (.int (.lit (.ofNat 5)))))])])])), (.ret (.bin (.cst (.int (.lit (.ofNat 255)))) .add (.callB .len [(.loc 3)])))] []), (.setL 5 (.bin (.bin (.loc 2) .add (.callB .len [(.loc 0)])) .sub (.ite (.cmp (.callB .len [(.loc 0)]) .eq (.cst (.int (.lit (.ofNat 11))))) (.cst (.int (.lit (.ofNat 1)))) (.cst (.int (.lit (.ofNat 4))))))), (.setL 6 (.callT 94 [(.loc 2), (.loc 5), (.bin (.cst (.str [9])) .mul (.loc 2)), (.loc 1)])), (.setL 7 (.callM (.loc 0) .split [(.cst (.str [32]))])), (.loop 8 (.rng [(.callB .len [(.loc 7)])]) [(.ite (.cmp (.callM (.loc 6) .chunk [(.ite (.cmp (.loc 8) .gt (.cst (.int (.lit (.ofNat 0))))) (.cst (.str [32])) (.cst (.str []))), (.itm (.loc 7) (.loc 8))]) .isNot (.cst .none)) [(.expr (.callM (.loc 4) .append [(.loc 0)]))] [])] []), (.rooms 9 10 11 (.loc 6)), (.setN [12, 13] (.callM (.callM (.loc 6) .str_ [(.cst (.str [13, 10]))]) .split [(.cst (.str [13, 10]))])), (.ite (.bool .false [(.cmp (.bin (.loc 12) .add (.loc 13)) .ne (.loc 0)), (.cmp (.bin (.loc 10) .add (.callB .len [(.loc 13)])) .ne (.loc 5)), (.cmp (.bin (.loc 11) .add (.loc 2)) .ne (.loc 5))]) [(.expr (.callM (.loc 4) .append [(.loc 0)]))] []), (.setL 14 (.callT 227 [(.loc 12), (.loc 1), (.loc 2), (.loc 3), (.loc 4)])), (.setL 15 (.callT 227 [(.slc (.loc 13) (.cst (.int (.lit (.ofNat 1)))) (.cst .none)), (.loc 1), (.loc 2), (.loc 3), (.loc 4)])), (.expr (.callM (.loc 3) .append [(.tup [(.itm (.cst (.top 197)) (.itm (.loc 12) (.cst (.int (.lit (.negSucc 0)))))), (.loc 14), (.loc 15)])])), (.ret (.bin (.cst (.int (.lit (.ofNat 255)))) .add (.callB .len [(.loc 3)])))])
noncomputable def fn160 : FnI := (.mk 2 [.none] [(.ite (.cmp (.loc 1) .is (.cst .none)) [(.setL 1 (.lst []))] []), (.setS (.loc 0) (.cst .none) (.loc 1)), (.setA (.loc 0) 6 (.cst (.int (.lit (.ofNat 0)))))])
noncomputable def fn130 : FnI := (.mk 2 [] [(.setL 2 (.slc (.loc 0) (.loc 1) (.cst .none))), (.setS (.loc 0) (.loc 1) (.lst [])), (.ret (.loc 2))])
noncomputable def fn56 : FnI := (.mk 1 [] [(.setL 1 (.callM (.att (.loc 0) 5) .pop [])), (.ite (.cmp (.loc 1) .ne (.tup [(.cst (.str [32])), (.cst (.str []))])) [(.expr (.callS (.att (.loc 0) 5) .push (.loc 1)))] []), (.ite (.cmp (.callB .len [(.att (.loc 0) 5)]) .gt (.cst (.int (.lit (.ofNat 0))))) [(.ite (.bool .true [(.callM (.att (.loc 0) 5) .onlyws []), (.att (.loc 0) 4)]) [.bad] [(.expr (.callM (.att (.loc 0) 4) .append [(.callB .str [(.att (.loc 0) 5)])]))])] []), (.expr (.callM (.att (.loc 0) 5) .reset []))])
noncomputable def fn35 : FnI := (.mk 5 [] [(.setA (.loc 0) 0 (.loc 2)), (.setA (.loc 0) 1 (.loc 3)), (.setA (.loc 0) 2 (.callB .len [(.loc 3)])), (.setA (.loc 0) 3 (.loc 4)), (.setA (.loc 0) 4 (.lst [])), (.setA (.loc 0) 5 (.callT 178 [(.loc 1)]))])
noncomputable def fn42 : FnI := (.mk 2 [] [(.expr (.callM (.loc 0) .newline [])), (.ret (.callM (.loc 1) .join [(.att (.loc 0) 4)]))])
noncomputable def fn167 : FnI := (.mk 1 [] [(.ret (.bool .true [(.cmp (.att (.loc 0) 6) .eq (.cst (.int (.lit (.ofNat 0))))), (.bool .false [(.not (.loc 0)), (.callM (.callB .str [(.loc 0)]) .isspace [])])]))])
noncomputable def fn220 : FnI := (.mk 2 [] [(.setL 2 (.lst [])), (.loop 3 (.rng [(.cst (.int (.lit (.ofNat 4))))]) [(.expr (.callM (.loc 2) .append [(.bin (.bin (.loc 1) .add (.callB .chr [(.bin (.cst (.int (.lit (.ofNat 252)))) .add (.loc 3))])) .add (.ite (.cmp (.loc 3) .lt (.cst (.int (.lit (.ofNat 3))))) (.itm (.loc 0) (.loc 3)) (.loc 1)))]))] []), (.ret (.callM (.cst (.str [32])) .join [(.loc 2)]))])
noncomputable def fn241 : FnI := (.mk 5 [] [(.setL 5 (.cst (.int (.lit (.ofNat 0))))), (.loop 6 (.rng [(.cst (.int (.lit (.ofNat 4))))]) [(.setL 7 (.itm (.loc 2) (.loc 6))), (.setL 8 (.cst (.int (.lit (.ofNat 3))))), (.loop 9 (.rng [(.loc 6), (.cst (.int (.lit (.ofNat 3))))]) [(.ite (.cmp (.itm (.loc 1) (.itm (.loc 0) (.loc 9))) .le (.loc 8)) [(.setL 8 (.itm (.loc 1) (.itm (.loc 0) (.loc 9)))), (.setL 7 (.bin (.loc 7) .mul (.itm (.loc 3) (.itm (.loc 0) (.loc 9)))))] [])] []), (.setL 8 (.cst (.int (.lit (.ofNat 3))))), (.loop 9 (.rng [(.bin (.loc 6) .sub (.cst (.int (.lit (.ofNat 1))))), (.cst (.int (.lit (.negSucc 0)))), (.cst (.int (.lit (.negSucc 0))))]) [(.ite (.cmp (.itm (.loc 1) (.itm (.loc 0) (.loc 9))) .lt (.loc 8)) [(.setL 8 (.itm (.loc 1) (.itm (.loc 0) (.loc 9)))), (.setL 7 (.bin (.loc 7) .mul (.itm (.loc 4) (.itm (.loc 0) (.loc 9)))))] [])] []), (.setL 5 (.bin (.loc 5) .add (.loc 7)))] []), (.ret (.loc 5))])
noncomputable def fn248 : FnI := (.mk 3 [] [(.setL 3 (.cst (.int (.lit (.ofNat 0))))), (.loop 4 (.rng [(.cst (.int (.lit (.ofNat 4))))]) [(.setL 5 (.bin (.itm (.tup [(.cst (.int (.lit (.ofNat 1)))), (.cst (.int (.lit (.ofNat 3)))), (.cst (.int (.lit (.ofNat 3)))), (.cst (.int (.lit (.ofNat 1))))]) (.loc 4)) .mul (.itm (.loc 0) (.loc 4)))), (.loop 6 (.rng [(.loc 4), (.cst (.int (.lit (.ofNat 3))))]) [(.setL 5 (.bin (.loc 5) .mul (.bin (.bin (.itm (.loc 1) (.loc 6)) .add (.loc 6)) .sub (.loc 4))))] []), (.loop 6 (.rng [(.loc 4)]) [(.setL 5 (.bin (.loc 5) .mul (.bin (.bin (.bin (.itm (.loc 2) (.loc 6)) .add (.loc 4)) .sub (.cst (.int (.lit (.ofNat 1))))) .sub (.loc 6))))] []), (.setL 3 (.bin (.loc 3) .add (.loc 5)))] []), (.ret (.loc 3))])
noncomputable def lawAS : List AS := [.bad, (.setL 2 (.slc (.loc 1) (.cst .none) (.cst (.int (.lit (.ofNat 4)))))), (.setL 3 (.slc (.loc 1) (.cst (.int (.lit (.ofNat 4)))) (.cst (.int (.lit (.ofNat 7)))))), (.setL 4 (.slc (.loc 1) (.cst (.int (.lit (.ofNat 7)))) (.cst (.int (.lit (.ofNat 10)))))), (.setL 5 (.bin (.cst (.int (.lit (.ofNat 14)))) .add (.bin (.itm (.loc 1) (.cst (.int (.lit (.ofNat 10))))) .mod (.cst (.int (.lit (.ofNat 11))))))), (.setC 6 (.slc (.cst (.str [43, 45, 42, 47, 124, 38, 60, 62, 61, 46, 37, 123, 125])) (.bin (.loc 5) .sub (.cst (.int (.lit (.ofNat 14))))) (.bin (.loc 5) .sub (.cst (.int (.lit (.ofNat 11))))))), (.setL 7 (.bin (.itm (.loc 1) (.cst (.int (.lit (.ofNat 10))))) .div (.cst (.int (.lit (.ofNat 11)))))), (.setL 8 (.bin (.loc 7) .mod (.cst (.int (.lit (.ofNat 4)))))), (.setL 9 (.comp (.bin (.bin (.itm (.cel 4) (.loc 1)) .add (.itm (.cel 4) (.loc 2))) .add (.itm (.cel 4) (.bin (.bin (.cst (.int (.lit (.ofNat 3)))) .sub (.loc 1)) .sub (.loc 2)))) [(1, ((.rng [(.cst (.int (.lit (.ofNat 3))))]), [])), (2, ((.rng [(.cst (.int (.lit (.ofNat 3))))]), [(.cmp (.loc 2) .ne (.loc 1))]))] [(4, 6)])), (.setC 10 (.itm (.loc 9) (.bin (.bin (.loc 7) .div (.cst (.int (.lit (.ofNat 4))))) .mod (.cst (.int (.lit (.ofNat 6))))))), (.setL 11 (.lst [(.bin (.bin (.loc 7) .div (.cst (.int (.lit (.ofNat 24))))) .mod (.cst (.int (.lit (.ofNat 3))))), (.bin (.bin (.loc 7) .div (.cst (.int (.lit (.ofNat 72))))) .mod (.cst (.int (.lit (.ofNat 3))))), (.bin (.bin (.loc 7) .div (.cst (.int (.lit (.ofNat 216))))) .mod (.cst (.int (.lit (.ofNat 3)))))])), (.setL 12 (.comp (.callM (.cel 2) .index [(.loc 1)]) [(1, ((.cel 6), []))] [(2, 10)])), (.setL 13 (.lst [])), (.setL 14 (.lst [])), (.setL 15 (.callT 227 [(.callT 220 [(.comp (.itm (.cel 2) (.loc 1)) [(1, ((.loc 11), []))] [(2, 6)]), (.itm (.cel 10) (.cst (.int (.lit (.ofNat 0)))))]), (.cel 10), (.loc 8), (.loc 14), (.loc 13)])), (.setL 16 (.callT 234 [(.loc 15), (.loc 14), (.loc 5), (.loc 2), (.loc 3), (.loc 4)])), (.setL 17 (.cst (.int (.lit (.ofNat 0))))), (.loop 18 (.loc 9) [(.setL 19 (.lst [])), (.setL 20 (.callT 227 [(.callT 220 [(.cel 6), (.itm (.loc 18) (.cst (.int (.lit (.ofNat 0)))))]), (.loc 18), (.loc 8), (.loc 19), (.loc 13)])), (.setL 17 (.callT 189 [(.loc 17), (.callT 234 [(.loc 20), (.loc 19), (.loc 5), (.loc 2), (.loc 3), (.loc 4)])]))] []), (.ite (.bool .false [(.cmp (.loc 13) .ne (.lst [])), (.cmp (.callT 206 [(.loc 15)]) .isNot (.cst (.bool (.lit .false)))), (.cmp (.callT 206 [(.itm (.loc 1) (.cst (.int (.lit (.ofNat 0)))))]) .isNot (.cmp (.itm (.loc 1) (.cst (.int (.lit (.ofNat 0))))) .lt (.cst (.int (.lit (.ofNat 256))))))]) [(.ret (.cst (.bool (.lit .false))))] []), (.ret (.bool .true [(.cmp (.loc 16) .eq (.callT 241 [(.loc 11), (.loc 12), (.loc 2), (.loc 3), (.loc 4)])), (.cmp (.loc 17) .eq (.callT 248 [(.loc 2), (.loc 3), (.loc 4)]))]))]
noncomputable def fnL : List (Nat × FnI) := [(227, fn227), (91, fn91), (122, fn122), (234, fn234), (206, fn206), (196, fn196), (189, fn189), (35, fn35), (42, fn42), (56, fn56), (130, fn130), (160, fn160), (167, fn167), (220, fn220), (241, fn241), (248, fn248)]
noncomputable def lookF (a : Nat) (l : List (Nat × FnI)) : Option FnI := @List.rec (Nat × FnI) (fun _ => Option FnI) none (fun p _ ih => cond (Nat.beq a p.1) (some p.2) ih) l
noncomputable def fnT (a : Nat) : Option FnI := lookF a fnL
theorem lookF_eq {l : List (Nat × List AV × Option (Arguments × List Stmt × Scope))} {m : List (Nat × FnI)} (h : All2 (fun p q => p.1 = q.1 ∧ fnI p.2.1 p.2.2 = some q.2) l m) (a : Nat) : lookF a m = ob (defAt a l) fun p => fnI p.1 p.2 := by
  induction h with
  | nil => rfl
  | @cons p q _ _ r _ ih =>
    show cond (Nat.beq a q.1) (some q.2) (lookF a _) = ob (cond (Nat.beq a p.1) (some p.2) (defAt a _)) _
    rw [r.1]
    cases Nat.beq a q.1 with
    | true => exact r.2.symm
    | false => exact ih
theorem fnI_227 : fnI [] (ownDef "_law_grow") = some fn227 := by kernel_rfl
theorem fnI_91 : fnI [] (pageDef "_append_chunk") = some fn91 := by kernel_rfl
theorem fnI_122 : fnI [] (accDef "push") = some fn122 := by kernel_rfl
theorem fnI_234 : fnI [] (ownDef "_law_worth") = some fn234 := by kernel_rfl
theorem fnI_206 : fnI [] (ownDef "ISTERMINAL") = some fn206 := by kernel_rfl
theorem fnI_196 : fnI [] (ownDef "imul") = some fn196 := by kernel_rfl
theorem fnI_189 : fnI [] (ownDef "iadd") = some fn189 := by kernel_rfl
theorem fnI_35 : fnI [] (pageDef "__init__") = some fn35 := by kernel_rfl
theorem fnI_42 : fnI [] (pageDef "_str") = some fn42 := by kernel_rfl
theorem fnI_56 : fnI [] (pageDef "newline") = some fn56 := by kernel_rfl
theorem fnI_130 : fnI [] (accDef "pop_from") = some fn130 := by kernel_rfl
theorem fnI_160 : fnI [.none] (accDef "reset") = some fn160 := by kernel_rfl
theorem fnI_167 : fnI [] (accDef "is_onlyws") = some fn167 := by kernel_rfl
theorem fnI_220 : fnI [] (ownDef "_law_text") = some fn220 := by kernel_rfl
theorem fnI_241 : fnI [] (ownDef "_law_told") = some fn241 := by kernel_rfl
theorem fnI_248 : fnI [] (ownDef "_law_due") = some fn248 := by kernel_rfl
theorem fnT_eq : fnT = fnAt := funext (lookF_eq (.cons ⟨rfl, fnI_227⟩ (.cons ⟨rfl, fnI_91⟩ (.cons ⟨rfl, fnI_122⟩ (.cons ⟨rfl, fnI_234⟩ (.cons ⟨rfl, fnI_206⟩ (.cons ⟨rfl, fnI_196⟩ (.cons ⟨rfl, fnI_189⟩ (.cons ⟨rfl, fnI_35⟩ (.cons ⟨rfl, fnI_42⟩ (.cons ⟨rfl, fnI_56⟩ (.cons ⟨rfl, fnI_130⟩ (.cons ⟨rfl, fnI_160⟩ (.cons ⟨rfl, fnI_167⟩ (.cons ⟨rfl, fnI_220⟩ (.cons ⟨rfl, fnI_241⟩ (.cons ⟨rfl, fnI_248⟩ (.nil))))))))))))))))))
end Mine
namespace Mine
open PySem PySem.W PyProof.Rows PySem.Calls

/-! the law's body, in three parts; a small state between them -/
noncomputable def symV (n : Nat) : AV := .int (.sym (.v n))
noncomputable def numbersL : List AV := [symV 0, symV 1, symV 2, symV 3]
noncomputable def formerL : List AV := [symV 4, symV 5, symV 6]
noncomputable def latterL : List AV := [symV 7, symV 8, symV 9]
noncomputable def cellsA (r : Nat) : List AV := [symV 0, symV 1, symV 2, symV 3, symV 4, symV 5, symV 6, symV 7, symV 8, symV 9, .int (.c10 r)]
noncomputable def threeV : AV := .str [fakeAt, fakeAt + 1, fakeAt + 2]
noncomputable def ordersL : List AV := [.str [fakeAt, fakeAt + 1, fakeAt + 2], .str [fakeAt, fakeAt + 2, fakeAt + 1], .str [fakeAt + 1, fakeAt, fakeAt + 2], .str [fakeAt + 1, fakeAt + 2, fakeAt], .str [fakeAt + 2, fakeAt, fakeAt + 1], .str [fakeAt + 2, fakeAt + 1, fakeAt]]
noncomputable def fuelL : Nat := 80

/-- a frame by its places; a heap by its objects -/
noncomputable def ofL (l : List (Nat × AV)) : Tr AV := l.foldr (fun p t => t.put 10 p.1 p.2) .nil
noncomputable def ofO (l : List AO) : AH := l.foldl AH.push .nil

/-- the same flat value, surely -/
noncomputable def eqi (i : Int) : Option Int → Bool
  | some j => ieq i j
  | none => false
noncomputable def eqn (i : Nat) : Option Nat → Bool
  | some j => Nat.beq i j
  | none => false
noncomputable def c10N : AI → Option Nat
  | .c10 r => some r
  | _ => none
noncomputable def symN : AI → Option Nat
  | .sym p => match p with
    | .v n => some n
    | _ => none
  | _ => none
noncomputable def sameI (a b : AI) : Bool := match a with
  | .lit i => eqi i (litA b)
  | .off i => eqi i (offA b)
  | .hof i => eqi i (hofA b)
  | .c10 m => eqn m (c10N b)
  | .sym p => match p with
    | .v m => eqn m (symN b)
    | _ => false
  | _ => false
noncomputable def sameV (a b : AV) : Bool := match a with
  | .int x => match b with
    | .int y => sameI x y
    | _ => false
  | .str x => match b with
    | .str y => nlb x y
    | _ => false
  | _ => false
noncomputable def sameL : List AV → List AV → Bool
  | [], [] => true
  | a :: r, b :: t => sameV a b && sameL r t
  | _, _ => false
noncomputable def sameO (a : Option AV) (b : AV) : Bool := isS a fun a => sameV a b
/-- the items of a list that a place holds -/
noncomputable def listAt (F : AF) (H : AH) (i : Nat) : Option (Nat × List AV) := match F.loc.get i with
  | some (.ref k) => match H.get k with
    | some (.list xs) => some (k, xs)
    | _ => none
  | _ => none
noncomputable def isL (F : AF) (H : AH) (i : Nat) (l : List AV) : Bool := isS (listAt F H i) fun p => sameL p.2 l
noncomputable def flatI : AV → Bool
  | .int _ => true
  | _ => false
noncomputable def flatL (F : AF) (H : AH) (i : Nat) : Option (List AV) := ob (listAt F H i) fun p => cond (p.2.all flatI) (some p.2) none
noncomputable def cellIs (H : AH) (k : Nat) (v : AV) : Bool := match H.get k with
  | some (.cell (some w)) => sameV w v
  | _ => false

/-- part A: all ahead of the loop -/
noncomputable def frameA : AF := ⟨ofL [(1, .ref 0)], [(6, 1), (10, 2)]⟩
noncomputable def heapA (r : Nat) : AH := ofO [.list (cellsA r), .cell none, .cell none]
noncomputable def partA : List AS := (lawAS.drop 1).take 16
noncomputable def partB : List AS := (lawAS.drop 17).take 1
noncomputable def partC : List AS := lawAS.drop 18
noncomputable def runA (r : Nat) : Option (Fl × AF × AH) := (run fnT fuelL).exs frameA (heapA r) partA
/-- no two places hold the same list -/
noncomputable def keyAt (F : AF) (i : Nat) : Option Nat := match F.loc.get i with
  | some (.ref k) => some k
  | _ => none
noncomputable def notIn (n : Nat) : List Nat → Bool
  | [] => true
  | m :: r => !Nat.beq n m && notIn n r
noncomputable def apartN : List Nat → Bool
  | [] => true
  | n :: r => notIn n r && apartN r
noncomputable def apartA (F : AF) : Bool := isS (mapO (keyAt F) [1, 2, 3, 4, 9, 11, 12, 13]) fun l => apartN (1 :: l)
structure Pick where
  ops : List AV
  ranks : List AV
  top : AV
  once : AV
noncomputable def pickA (r : Nat) (F : AF) (H : AH) : Option Pick := cond (isL F H 1 (cellsA r) && isL F H 2 numbersL && isL F H 3 formerL && isL F H 4 latterL && isL F H 9 ordersL && isL F H 13 [] && sameO (F.loc.get 5) (.int (.off 14)) && sameO (F.loc.get 8) (.int (.hof 0)) && sameO (F.loc.get 17) (.int (.lit 0)) && cellIs H 1 threeV && apartA F)
  (ob (flatL F H 11) fun ops => ob (flatL F H 12) fun ranks => ob (F.loc.get 15) fun top => ob (F.loc.get 16) fun once => cond (flatI top && flatI once) (some ⟨ops, ranks, top, once⟩) none) none

/-- part B: the loop; what it does not touch is handed through -/
noncomputable def frameB (aC aO aR : Nat) (tv ov : AV) : AF := ⟨ofL [(1, .top aC), (2, .ref 0), (3, .ref 1), (4, .ref 2), (5, .int (.off 14)), (8, .int (.hof 0)), (9, .ref 3), (11, .top aO), (12, .top aR), (13, .ref 4), (15, tv), (16, ov), (17, .int (.lit 0))], [(6, 5)]⟩
noncomputable def heapB : AH := ofO [.list numbersL, .list formerL, .list latterL, .list ordersL, .list [], .cell (some threeV)]
noncomputable def runB (aC aO aR : Nat) (tv ov : AV) : Option (Fl × AF × AH) := (run fnT fuelL).exs (frameB aC aO aR tv ov) heapB partB

/-- part C: the judgement -/
noncomputable def frameC (tv ov tot : AV) : AF := ⟨ofL [(1, .ref 0), (2, .ref 1), (3, .ref 2), (4, .ref 3), (11, .ref 5), (12, .ref 6), (13, .ref 4), (15, tv), (16, ov), (17, tot)], []⟩
noncomputable def heapC (r : Nat) (ops ranks : List AV) : AH := ofO [.list (cellsA r), .list numbersL, .list formerL, .list latterL, .list [], .list ops, .list ranks]
noncomputable def runC (r : Nat) (p : Pick) (tot : AV) : Option (Fl × AF × AH) := (run fnT fuelL).exs (frameC p.top p.once tot) (heapC r p.ops p.ranks) partC
noncomputable def isTrueV : AV → Bool
  | .bool t => match t with
    | .lit b => b
    | _ => false
  | _ => false
noncomputable def isTrueR (x : Option (Fl × AF × AH)) : Bool := isS x fun p => match p.1 with
  | .ret v => isTrueV v
  | _ => false
noncomputable def isNextR (x : Option (Fl × AF × AH)) (k : AF → AH → Bool) : Bool := isS x fun p => match p.1 with
  | .next => k p.2.1 p.2.2
  | _ => false
/-- one case -/
noncomputable def caseOk (tot : AV) (r : Nat) : Bool := isNextR (runA r) fun F H => isS (pickA r F H) fun p => isTrueR (runC r p tot)
end Mine
namespace Mine
open PySem PySem.W PyProof.Rows PySem.Calls

/-! the kernel runs the law's body -/
noncomputable def totV : AV := (.int (.sym (.add (.add (.add (.add (.add (.add (.lit (.ofNat 0)) (.add (.mul (.v 4) (.v 0)) (.mul (.v 7) (.add (.mul (.v 5) (.v 1)) (.mul (.v 8) (.add (.mul (.v 6) (.v 2)) (.mul (.v 9) (.v 3)))))))) (.add (.mul (.v 4) (.v 0)) (.mul (.v 7) (.add (.mul (.v 6) (.add (.mul (.v 5) (.v 1)) (.mul (.v 8) (.v 2)))) (.mul (.v 9) (.v 3)))))) (.add (.mul (.v 5) (.add (.mul (.v 4) (.v 0)) (.mul (.v 7) (.v 1)))) (.mul (.v 8) (.add (.mul (.v 6) (.v 2)) (.mul (.v 9) (.v 3)))))) (.add (.mul (.v 5) (.add (.mul (.v 4) (.v 0)) (.mul (.v 7) (.v 1)))) (.mul (.v 8) (.add (.mul (.v 6) (.v 2)) (.mul (.v 9) (.v 3)))))) (.add (.mul (.v 6) (.add (.mul (.v 4) (.v 0)) (.mul (.v 7) (.add (.mul (.v 5) (.v 1)) (.mul (.v 8) (.v 2)))))) (.mul (.v 9) (.v 3)))) (.add (.mul (.v 6) (.add (.mul (.v 5) (.add (.mul (.v 4) (.v 0)) (.mul (.v 7) (.v 1)))) (.mul (.v 8) (.v 2)))) (.mul (.v 9) (.v 3))))))
/-- what is known behind the loop -/
noncomputable def getB (aC aO aR : Nat) (tv ov : AV) : List (Nat × AV) := [(1, .top aC), (2, .ref 0), (3, .ref 1), (4, .ref 2), (11, .top aO), (12, .top aR), (13, .ref 4), (15, tv), (16, ov), (17, totV)]
noncomputable def objB : List (Nat × AO) := [(0, .list numbersL), (1, .list formerL), (2, .list latterL), (4, .list [])]
noncomputable def outB (aC aO aR : Nat) (tv ov : AV) (x : Option (Fl × AF × AH)) : Option (List (Option AV) × List (Option AO)) := ob3 x fun f F H => match f with
  | .next => some ((getB aC aO aR tv ov).map fun p => F.loc.get p.1, objB.map fun p => H.get p.1)
  | _ => none
theorem runB_ok (aC aO aR : Nat) (tv ov : AV) : outB aC aO aR tv ov (runB aC aO aR tv ov) = some ((getB aC aO aR tv ov).map fun p => some p.2, objB.map fun p => some p.2) := by kernel_rfl
end Mine
namespace Mine
theorem case_0 : (List.range' 0 6).all (caseOk totV) = true := by decide +kernel
theorem case_1 : (List.range' 6 6).all (caseOk totV) = true := by decide +kernel
theorem case_2 : (List.range' 12 6).all (caseOk totV) = true := by decide +kernel
theorem case_3 : (List.range' 18 6).all (caseOk totV) = true := by decide +kernel
theorem case_4 : (List.range' 24 6).all (caseOk totV) = true := by decide +kernel
theorem case_5 : (List.range' 30 6).all (caseOk totV) = true := by decide +kernel
theorem case_6 : (List.range' 36 6).all (caseOk totV) = true := by decide +kernel
theorem case_7 : (List.range' 42 6).all (caseOk totV) = true := by decide +kernel
theorem case_8 : (List.range' 48 6).all (caseOk totV) = true := by decide +kernel
theorem case_9 : (List.range' 54 6).all (caseOk totV) = true := by decide +kernel
theorem case_10 : (List.range' 60 6).all (caseOk totV) = true := by decide +kernel
theorem case_11 : (List.range' 66 6).all (caseOk totV) = true := by decide +kernel
theorem case_12 : (List.range' 72 6).all (caseOk totV) = true := by decide +kernel
theorem case_13 : (List.range' 78 6).all (caseOk totV) = true := by decide +kernel
theorem case_14 : (List.range' 84 6).all (caseOk totV) = true := by decide +kernel
theorem case_15 : (List.range' 90 6).all (caseOk totV) = true := by decide +kernel
theorem case_16 : (List.range' 96 6).all (caseOk totV) = true := by decide +kernel
theorem case_17 : (List.range' 102 6).all (caseOk totV) = true := by decide +kernel
theorem case_18 : (List.range' 108 6).all (caseOk totV) = true := by decide +kernel
theorem case_19 : (List.range' 114 6).all (caseOk totV) = true := by decide +kernel
theorem case_20 : (List.range' 120 6).all (caseOk totV) = true := by decide +kernel
theorem case_21 : (List.range' 126 6).all (caseOk totV) = true := by decide +kernel
theorem case_22 : (List.range' 132 6).all (caseOk totV) = true := by decide +kernel
theorem case_23 : (List.range' 138 6).all (caseOk totV) = true := by decide +kernel
theorem case_24 : (List.range' 144 6).all (caseOk totV) = true := by decide +kernel
theorem case_25 : (List.range' 150 6).all (caseOk totV) = true := by decide +kernel
theorem case_26 : (List.range' 156 6).all (caseOk totV) = true := by decide +kernel
theorem all_app {p : Nat → Bool} {a m n b k : Nat} (hb : b = a + m) (hk : k = m + n) (h : (List.range' a m).all p = true) (t : (List.range' b n).all p = true) : (List.range' a k).all p = true := by
  subst hb hk
  rw [← List.range'_append_1, List.all_append, h, t]; rfl
theorem upto_25 : (List.range' 150 12).all (caseOk totV) = true := all_app (b := 156) (n := 6) rfl rfl case_25 case_26
theorem upto_24 : (List.range' 144 18).all (caseOk totV) = true := all_app (b := 150) (n := 12) rfl rfl case_24 upto_25
theorem upto_23 : (List.range' 138 24).all (caseOk totV) = true := all_app (b := 144) (n := 18) rfl rfl case_23 upto_24
theorem upto_22 : (List.range' 132 30).all (caseOk totV) = true := all_app (b := 138) (n := 24) rfl rfl case_22 upto_23
theorem upto_21 : (List.range' 126 36).all (caseOk totV) = true := all_app (b := 132) (n := 30) rfl rfl case_21 upto_22
theorem upto_20 : (List.range' 120 42).all (caseOk totV) = true := all_app (b := 126) (n := 36) rfl rfl case_20 upto_21
theorem upto_19 : (List.range' 114 48).all (caseOk totV) = true := all_app (b := 120) (n := 42) rfl rfl case_19 upto_20
theorem upto_18 : (List.range' 108 54).all (caseOk totV) = true := all_app (b := 114) (n := 48) rfl rfl case_18 upto_19
theorem upto_17 : (List.range' 102 60).all (caseOk totV) = true := all_app (b := 108) (n := 54) rfl rfl case_17 upto_18
theorem upto_16 : (List.range' 96 66).all (caseOk totV) = true := all_app (b := 102) (n := 60) rfl rfl case_16 upto_17
theorem upto_15 : (List.range' 90 72).all (caseOk totV) = true := all_app (b := 96) (n := 66) rfl rfl case_15 upto_16
theorem upto_14 : (List.range' 84 78).all (caseOk totV) = true := all_app (b := 90) (n := 72) rfl rfl case_14 upto_15
theorem upto_13 : (List.range' 78 84).all (caseOk totV) = true := all_app (b := 84) (n := 78) rfl rfl case_13 upto_14
theorem upto_12 : (List.range' 72 90).all (caseOk totV) = true := all_app (b := 78) (n := 84) rfl rfl case_12 upto_13
theorem upto_11 : (List.range' 66 96).all (caseOk totV) = true := all_app (b := 72) (n := 90) rfl rfl case_11 upto_12
theorem upto_10 : (List.range' 60 102).all (caseOk totV) = true := all_app (b := 66) (n := 96) rfl rfl case_10 upto_11
theorem upto_9 : (List.range' 54 108).all (caseOk totV) = true := all_app (b := 60) (n := 102) rfl rfl case_9 upto_10
theorem upto_8 : (List.range' 48 114).all (caseOk totV) = true := all_app (b := 54) (n := 108) rfl rfl case_8 upto_9
theorem upto_7 : (List.range' 42 120).all (caseOk totV) = true := all_app (b := 48) (n := 114) rfl rfl case_7 upto_8
theorem upto_6 : (List.range' 36 126).all (caseOk totV) = true := all_app (b := 42) (n := 120) rfl rfl case_6 upto_7
theorem upto_5 : (List.range' 30 132).all (caseOk totV) = true := all_app (b := 36) (n := 126) rfl rfl case_5 upto_6
theorem upto_4 : (List.range' 24 138).all (caseOk totV) = true := all_app (b := 30) (n := 132) rfl rfl case_4 upto_5
theorem upto_3 : (List.range' 18 144).all (caseOk totV) = true := all_app (b := 24) (n := 138) rfl rfl case_3 upto_4
theorem upto_2 : (List.range' 12 150).all (caseOk totV) = true := all_app (b := 18) (n := 144) rfl rfl case_2 upto_3
theorem upto_1 : (List.range' 6 156).all (caseOk totV) = true := all_app (b := 12) (n := 150) rfl rfl case_1 upto_2
theorem upto_0 : (List.range' 0 162).all (caseOk totV) = true := all_app (b := 6) (n := 156) rfl rfl case_0 upto_1
theorem cases_ok {r : Nat} (h : r < 162) : caseOk totV r = true := List.all_eq_true.mp upto_0 r (List.mem_range'_1.mpr ⟨Nat.zero_le r, (Nat.zero_add 162).symm ▸ h⟩)
end Mine
namespace Mine
open PySem PySem.W PyProof.Rows PySem.Calls

/-! blocks, cut -/
theorem wp_execs_append {M : Model} {Γ : PySem.Ctx} {env : Env} {E : Value → Pos → Shared → Prop} {Q : Flow → Pos → Shared → Prop} {b a : List Stmt} : ∀ {p : Pos} {s : Shared},
    Sem.wp M Γ (execs a env) (fun f p' s' => match f with | .next => Sem.wp M Γ (execs b env) Q E p' s' | f => Q f p' s') E p s → Sem.wp M Γ (execs (a ++ b) env) Q E p s := by
  induction a with
  | nil => exact fun h => h
  | cons st r ih =>
    intro p s h
    rw [List.cons_append, execs_cons, Sem.wp_bind']
    rw [execs_cons, Sem.wp_bind'] at h
    refine Sem.wp_mono M Γ _ (fun f p' s' h' => ?_) (fun _ _ _ h' => h') _ _ h
    cases f with
    | next => exact ih h'
    | _ => exact h'
theorem Css.cut {ns : Names} {ts1 ts2 : List AS} {Ss : List Stmt} {ts : List AS} (h : Css ns Ss ts) : ts = ts1 ++ ts2 → ∃ S1 S2, Ss = S1 ++ S2 ∧ Css ns S1 ts1 ∧ Css ns S2 ts2 := by
  induction h generalizing ts1 with
  | nil => intro e; obtain ⟨rfl, rfl⟩ := List.append_eq_nil_iff.mp e.symm; exact ⟨[], [], rfl, .nil, .nil⟩
  | cons h1 h2 ih =>
    intro e
    cases ts1 with
    | nil => exact ⟨[], _, rfl, .nil, (show _ = ts2 from e) ▸ .cons h1 h2⟩
    | cons t r =>
      obtain ⟨rfl, e2⟩ := List.cons.inj e
      obtain ⟨S1, S2, rfl, a, b⟩ := ih e2
      exact ⟨_ :: S1, S2, rfl, .cons h1 a, b⟩
  | rooms h1 h2 ih =>
    intro e
    cases ts1 with
    | nil => exact ⟨[], _, rfl, .nil, (show _ = ts2 from e) ▸ .rooms h1 h2⟩
    | cons t r =>
      obtain ⟨rfl, e2⟩ := List.cons.inj e
      obtain ⟨S1, S2, rfl, a, b⟩ := ih e2
      exact ⟨_ :: _ :: _ :: S1, S2, rfl, .rooms h1 a, b⟩

section
variable {cx : Cx} {θ : Th} {X ρ ρ' : List Addr} {H H' : AH} {s s' s'' : Shared} {A : Around} {v : AV} {x y z : Value} {E : Value → Shared → Prop} {env : Env} {ns : Names} {F F' : AF}

theorem tri_append {a b : List Stmt} {Q : Flow → Shared → Prop} (h : Tri cx A (execs a env) s fun f s' => match f with | .next => Tri cx A (execs b env) s' Q | f => Q f s') : Tri cx A (execs (a ++ b) env) s Q :=
  fun Γ p hΓ => wp_execs_append (Sem.wp_mono _ Γ _ (fun f p' s' h' => by
    cases f with
    | next => exact h' Γ p' hΓ
    | brk => exact h'
    | cont => exact h'
    | ret v => exact h') (fun _ _ _ h' => h') p s (h Γ p hΓ))

/-! a small state -/
theorem St.nil (S : St cx θ ρ H s) {θ' : Th} : St cx θ' [] AH.nil s := ⟨rfl, List.nodup_nil, fun _ m => (nomatch m), fun _ m => (nomatch m), (by show 0 + 1 < 2 ^ 40; decide), fun _ _ e => (nomatch e), S.base, S.size, S.oldk, S.bare⟩
theorem St.adopt (S : St cx θ ρ H s) {a : Addr} {o : Obj} {ao : AO} (ha : a ∉ ρ) (h1 : cx.h₁.objs.size ≤ a) (ho : s.heap.get? a = some o) (hr : ORel θ (ρ ++ [a]) ao o) (hn : H.n + 2 < 2 ^ 40) : St cx θ (ρ ++ [a]) (H.push ao) s where
  len := by rw [List.length_append, S.len]; rfl
  nodup := List.nodup_append.mpr ⟨S.nodup, (List.nodup_cons.mpr ⟨(fun m => nomatch m), List.nodup_nil⟩), fun b hb c hc z => ha (List.mem_singleton.mp hc ▸ z ▸ hb)⟩
  lt := fun b m => (List.mem_append.mp m).elim (S.lt b) fun m => List.mem_singleton.mp m ▸ Heap.lt_size ho
  old := fun b m => (List.mem_append.mp m).elim (S.old b) fun m => List.mem_singleton.mp m ▸ h1
  small := hn
  obj := fun i a' e => by
    rw [AH.get_push S.small] at e
    by_cases hi : i = H.n
    · rw [if_pos hi] at e
      obtain rfl := Option.some.inj e
      exact ⟨a, o, hi ▸ at_end S.len, ho, hr⟩
    · rw [if_neg hi] at e
      obtain ⟨b, o', hb, ho', q⟩ := S.obj i a' e
      exact ⟨b, o', at_mono hb, ho', q.mono⟩
  base := S.base
  size := S.size
  oldk := S.oldk
  bare := S.bare
/-- what stands at an address, no address in it -/
noncomputable def Here (cx : Cx) (θ : Th) (s : Shared) (a : Addr) (ao : AO) : Prop := cx.h₁.objs.size ≤ a ∧ ∃ o, s.heap.get? a = some o ∧ ORel θ [] ao o
theorem St.picks0 {as : List Addr} {os : List AO} (h : All2 (Here cx θ s) as os) : ∀ {ρ : List Addr} {H : AH}, St cx θ ρ H s → (ρ ++ as).Nodup → H.n + os.length < 1000 → St cx θ (ρ ++ as) (os.foldl AH.push H) s := by
  induction h with
  | nil => exact fun S _ _ => (List.append_nil _).symm ▸ S
  | @cons a ao as os h1 t ih =>
    intro ρ H S hnd hn
    have e : ρ ++ a :: as = (ρ ++ [a]) ++ as := (List.append_assoc ρ [a] as).symm
    rw [e] at hnd ⊢
    obtain ⟨h1, o, ho, hr⟩ := h1
    have hn1 : H.n < 1000 := Nat.lt_of_le_of_lt (Nat.le_add_right _ _) hn
    refine ih (S.adopt (fun m => (List.nodup_append.mp (List.nodup_append.mp hnd).1).2.2 a m a (.head _) rfl) h1 ho (List.nil_append (ρ ++ [a]) ▸ hr.mono (tl := ρ ++ [a])) (n40 (Nat.lt_trans hn1 (by decide)) (by decide))) hnd ?_
    show H.n + 1 + os.length < 1000
    exact Nat.add_right_comm .. ▸ hn
theorem St.picks {as : List Addr} {os : List AO} (S : St cx θ ρ H s) (h : All2 (Here cx θ s) as os) (hnd : as.Nodup) (hn : os.length < 1000) : St cx θ as (ofO os) s := St.picks0 h (ρ := []) (H := AH.nil) S.nil hnd ((Nat.zero_add _).symm ▸ hn)

theorem ofL_get {l : List (Nat × AV)} {i : Nat} {v : AV} (h : ∀ p ∈ l, p.1 < 1000) (e : (ofL l).get i = some v) : (i, v) ∈ l := by
  induction l with
  | nil => exact no_el e
  | cons p r ih =>
    change (Tr.put 10 (ofL r) p.1 p.2).get i = some v at e
    rw [Tr.get_put _ _ _ _ _ (Nat.lt_trans (Nat.succ_lt_succ (h p (.head _))) (by decide))] at e
    by_cases hi : i = p.1
    · rw [if_pos hi] at e
      exact Option.some.inj e ▸ hi ▸ .head _
    · rw [if_neg hi] at e
      exact .tail _ (ih (fun q hq => h q (.tail _ hq)) e)
theorem Frm.pick (Fr : Frm θ cx env ns F ρ s) {l : List (Nat × AV)} {cel : List (Nat × Nat)} (hl : ∀ p ∈ l, p.1 < 1000) (hL : env.locals ∉ ρ') (h : ∀ i v', (i, v') ∈ l → ∃ v, F.loc.get i = some v ∧ ∀ y, VRel θ ρ v y → VRel θ ρ' v' y)
    (hc : ∀ x i k j, slot x 0 ns = some (i, k) → celAt i cel = some j → ∃ a, env.cells.lookup x = some a ∧ ρ'[j]? = some a) : Frm θ cx env ns ⟨ofL l, cel⟩ ρ' s := by
  obtain ⟨m, hn, hm⟩ := Fr.loc
  refine ⟨Fr.kind, Fr.names, Fr.few, Fr.glob, Fr.blt, hL, Fr.old, ⟨m, hn, fun x i v' hx e => ?_⟩, hc⟩
  obtain ⟨v, hv, hr⟩ := h i v' (ofL_get hl e)
  obtain ⟨y, hy, hvy⟩ := hm x i v hx hv
  exact ⟨y, hy, hr y hvy⟩

/-! the picks -/
theorem eqi_out {i : Int} {o : Option Int} (h : eqi i o = true) : o = some i := by
  cases o with
  | none => exact nomatch h
  | some j => exact congrArg some (ieq_iff.mp h).symm
theorem eqn_out {i : Nat} {o : Option Nat} (h : eqn i o = true) : o = some i := by
  cases o with
  | none => exact nomatch h
  | some j => exact congrArg some (beq_t h).symm
theorem sameI_out {a b : AI} (h : sameI a b = true) : a = b := by
  cases a with
  | lit i => exact (litA_out (eqi_out h)).symm
  | off i => exact (offA_out (eqi_out h)).symm
  | hof i => exact (hofA_out (eqi_out h)).symm
  | c10 m =>
    have h := eqn_out h
    cases b with
    | c10 n => exact congrArg AI.c10 (Option.some.inj h).symm
    | _ => exact no_el h
  | sym p => cases p with
    | v m =>
      have h := eqn_out h
      cases b with
      | sym q => cases q with
        | v n => exact congrArg (fun n => AI.sym (.v n)) (Option.some.inj h).symm
        | _ => exact no_el h
      | _ => exact no_el h
    | _ => exact nomatch h
  | _ => exact nomatch h
theorem sameV_out {a b : AV} (h : sameV a b = true) : a = b := by
  cases a with
  | int x => cases b with
    | int y => exact congrArg AV.int (sameI_out h)
    | _ => exact nomatch h
  | str x => cases b with
    | str y => exact congrArg AV.str (nlb_iff.mp h)
    | _ => exact nomatch h
  | _ => exact nomatch h
theorem sameL_out {a : List AV} : ∀ {b : List AV}, sameL a b = true → a = b := by
  induction a with
  | nil => intro b h; cases b with
    | nil => rfl
    | cons _ _ => exact nomatch h
  | cons x a ih => intro b h; cases b with
    | nil => exact nomatch h
    | cons y b => rw [sameV_out (and_t h).1, ih (and_t h).2]
theorem listAt_out {i k : Nat} {xs : List AV} (h : listAt F H i = some (k, xs)) : F.loc.get i = some (.ref k) ∧ H.get k = some (.list xs) := by
  change (match F.loc.get i with | some (.ref k) => (match H.get k with | some (.list xs) => some (k, xs) | _ => none) | _ => none) = _ at h
  cases hi : F.loc.get i with
  | none => rw [hi] at h; exact no_el h
  | some u =>
    rw [hi] at h
    cases u with
    | ref j =>
      refine get_el (f := fun r => match r with | some (.list xs) => some (j, xs) | _ => none) h rfl fun o ho h => ?_
      cases o with
      | list l => obtain ⟨rfl, rfl⟩ := sm2 h; exact ⟨rfl, ho⟩
      | _ => exact no_el h
    | _ => exact no_el h
theorem isL_out {i : Nat} {l : List AV} (h : isL F H i l = true) : ∃ k, F.loc.get i = some (.ref k) ∧ H.get k = some (.list l) :=
  isS_el h fun p e h => ⟨p.1, listAt_out (sameL_out h ▸ e)⟩
theorem flatL_out {i : Nat} {l : List AV} (h : flatL F H i = some l) : (∃ k, F.loc.get i = some (.ref k) ∧ H.get k = some (.list l)) ∧ l.all flatI = true :=
  ob_el h fun p e h => cnd_el h fun h1 h => Option.some.inj h ▸ ⟨⟨p.1, listAt_out e⟩, h1⟩
theorem sameO_out {a : Option AV} {b : AV} (h : sameO a b = true) : a = some b := isS_el h fun _ e h => sameV_out h ▸ e
theorem cellIs_out {k : Nat} (h : cellIs H k v = true) : H.get k = some (.cell (some v)) := by
  change (match H.get k with | some (.cell (some w)) => sameV w v | _ => false) = true at h
  cases ho : H.get k with
  | none => rw [ho] at h; exact nomatch h
  | some o =>
    rw [ho] at h
    cases o with
    | cell c => cases c with
      | some w => exact congrArg (fun w => some (AO.cell (some w))) (sameV_out h)
      | none => exact nomatch h
    | _ => exact nomatch h
theorem notIn_out {n : Nat} {l : List Nat} (h : notIn n l = true) : n ∉ l := by
  induction l with
  | nil => exact fun m => nomatch m
  | cons m r ih => exact fun q => (List.mem_cons.mp q).elim (Nat.ne_of_beq_eq_false (not_t (and_t h).1)) (ih (and_t h).2)
theorem apartN_out {l : List Nat} (h : apartN l = true) : l.Nodup := by
  induction l with
  | nil => exact List.nodup_nil
  | cons n r ih => exact List.nodup_cons.mpr ⟨notIn_out (and_t h).1, ih (and_t h).2⟩

/-- a value without an address -/
noncomputable def flatA : AV → Bool
  | .ref _ => false
  | _ => true
theorem VRel.flat (h : VRel θ ρ v x) (hf : flatA v = true) : VRel θ ρ' v x := by
  cases v with
  | ref _ => exact nomatch hf
  | _ => exact h
theorem All2.flat {vs : List AV} {xs : List Value} (h : All2 (VRel θ ρ) vs xs) (hf : vs.all flatA = true) : All2 (VRel θ ρ') vs xs := by
  induction h with
  | nil => exact .nil
  | cons a t ih =>
    exact .cons (VRel.flat a (and_t hf).1) (ih (and_t hf).2)
theorem here_list (S : St cx θ ρ H s) {k : Nat} {a : Addr} {xs : List AV} (ha : ρ[k]? = some a) (hg : H.get k = some (.list xs)) (hf : xs.all flatA = true) : Here cx θ s a (.list xs) := by
  obtain ⟨o, ho, vs, n, rfl, hr⟩ := S.getO ha hg
  exact ⟨S.old a (List.mem_of_getElem? ha), _, ho, vs, n, rfl, hr.flat hf⟩
theorem here_cell (S : St cx θ ρ H s) {k : Nat} {a : Addr} (ha : ρ[k]? = some a) (hg : H.get k = some (.cell (some v))) (hf : flatA v = true) : Here cx θ s a (.cell (some v)) := by
  obtain ⟨o, ho, w, hw, y, hy, hr⟩ := S.getO ha hg
  exact ⟨S.old a (List.mem_of_getElem? ha), o, ho, w, hw, y, hy, VRel.flat hr hf⟩
theorem Here.step {a : Addr} {ao : AO} (h : Here cx θ s a ao) (l : Lk cx X ρ s ρ' s') (h1 : a ∉ X) (h2 : a ∉ ρ) (C : COk cx) : Here cx θ s' a ao :=
  let ⟨p, o, ho, hr⟩ := h
  ⟨p, o, l.keep.heap a o ho (fun m => (List.mem_append.mp m).elim h1 h2) (fun m => Nat.lt_irrefl _ (Nat.lt_of_lt_of_le (C.tabs _ m) p)), hr⟩
/-- distinct places, distinct addresses -/
theorem pick_mem (h : ρ.Nodup) {k : Nat} {a : Addr} (h1 : ρ[k]? = some a) {ks : List Nat} {as : List Addr} (q : All2 (fun k a => ρ[k]? = some a) ks as) (m : a ∈ as) : k ∈ ks := by
  induction q with
  | nil => exact nomatch m
  | cons h2 _ ih => exact (List.mem_cons.mp m).elim (fun e => nodup_at h h1 (e ▸ h2) ▸ .head _) fun m => .tail _ (ih m)
theorem nodup_picks (h : ρ.Nodup) {ks : List Nat} {as : List Addr} (q : All2 (fun k a => ρ[k]? = some a) ks as) (hn : ks.Nodup) : as.Nodup := by
  induction q with
  | nil => exact List.nodup_nil
  | cons h1 t ih =>
    obtain ⟨hk, hn⟩ := List.nodup_cons.mp hn
    exact List.nodup_cons.mpr ⟨fun m => hk (pick_mem h h1 t m), ih hn⟩
end
end Mine
namespace Mine
open PySem PySem.W PyProof.Rows PySem.Calls

section
variable {cx : Cx} {θ : Th} {X ρ ρ' : List Addr} {H H' : AH} {s s' s'' : Shared} {A : Around} {v : AV} {x y z : Value} {E : Value → Shared → Prop} {env : Env} {ns : Names} {F F' : AF}

theorem numbers_flat : numbersL.all flatA = true := rfl
theorem VRel.top_of {k a : Nat} (ha : ρ[k]? = some a) (h : VRel θ ρ (.ref k) y) : VRel θ ρ' (.top a) y := by
  obtain ⟨b, hb, rfl⟩ := h
  rw [ha] at hb
  cases hb
  rfl
theorem VRel.ref_of {k j a : Nat} (ha : ρ[k]? = some a) (hj : ρ'[j]? = some a) (h : VRel θ ρ (.ref k) y) : VRel θ ρ' (.ref j) y := by
  obtain ⟨b, hb, rfl⟩ := h
  rw [ha] at hb
  cases hb
  exact ⟨a, hj, rfl⟩
theorem flatI_flat (h : flatI v = true) : flatA v = true := by
  cases v with
  | int _ => rfl
  | _ => exact nomatch h
theorem all_flat {l : List AV} (h : l.all flatI = true) : l.all flatA = true := List.all_eq_true.mpr fun x hx => flatI_flat (List.all_eq_true.mp h x hx)

noncomputable def LawEnd (cx : Cx) (s : Shared) (fl : Flow) (s' : Shared) : Prop := fl = .ret (.bool true) ∧ OldK cx.h₁ s'.heap ∧ s'.os = s.os ∧ AllBare s'.gens

/-- a place holds a list, which stands at an address -/
noncomputable def LA (F : AF) (H : AH) (ρ : List Addr) (i : Nat) (l : List AV) (a : Addr) : Prop := ∃ k, F.loc.get i = some (.ref k) ∧ H.get k = some (.list l) ∧ ρ[k]? = some a
theorem la_of (S : St cx θ ρ H s) {i : Nat} {l : List AV} (h : ∃ k, F.loc.get i = some (.ref k) ∧ H.get k = some (.list l)) : ∃ a, LA F H ρ i l a := let ⟨k, g, e⟩ := h; let ⟨a, _, r, _⟩ := S.obj k _ e; ⟨a, k, g, e, r⟩
theorem LA.here {i : Nat} {l : List AV} {a : Addr} (h : LA F H ρ i l a) (S : St cx θ ρ H s) (hf : l.all flatA = true) : Here cx θ s a (.list l) := let ⟨_, _, g, r⟩ := h; here_list S r g hf
theorem LA.mem {i : Nat} {l : List AV} {a : Addr} (h : LA F H ρ i l a) : a ∈ ρ := let ⟨_, _, _, r⟩ := h; List.mem_of_getElem? r
/-- what is handed on to a small frame -/
noncomputable def Hand (F : AF) (θ : Th) (ρ ρ' : List Addr) (p : Nat × AV) : Prop := ∃ v, F.loc.get p.1 = some v ∧ ∀ y, VRel θ ρ v y → VRel θ ρ' p.2 y
theorem LA.top {i : Nat} {l : List AV} {a : Addr} (h : LA F H ρ i l a) : Hand F θ ρ ρ' (i, .top a) := let ⟨_, g, _, r⟩ := h; ⟨_, g, fun _ q => q.top_of r⟩
theorem LA.ref {i j : Nat} {l : List AV} {a : Addr} (h : LA F H ρ i l a) (hj : ρ'[j]? = some a) : Hand F θ ρ ρ' (i, .ref j) := let ⟨_, g, _, r⟩ := h; ⟨_, g, fun _ q => q.ref_of r hj⟩
theorem hand_flat {i : Nat} (g : F.loc.get i = some v) (hf : flatA v = true) : Hand F θ ρ ρ' (i, v) := ⟨_, g, fun _ q => q.flat hf⟩
theorem hand_top {i j a : Nat} (g : F.loc.get i = some (.top a)) (hj : ρ'[j]? = some a) : Hand F θ ρ ρ' (i, .ref j) := ⟨_, g, fun _ q => ⟨a, hj, q⟩⟩
theorem hand_ref {i j k a : Nat} (g : F.loc.get i = some (.ref k)) (r : ρ[k]? = some a) (hj : ρ'[j]? = some a) : Hand F θ ρ ρ' (i, .ref j) := ⟨_, g, fun _ q => q.ref_of r hj⟩
theorem pick_sub {ks : List Nat} {as : List Addr} (q : All2 (fun k a => ρ[k]? = some a) ks as) {a : Addr} (m : a ∈ as) : a ∈ ρ := by
  induction q with
  | nil => exact nomatch m
  | cons h _ ih => exact (List.mem_cons.mp m).elim (fun e => e ▸ List.mem_of_getElem? h) ih
theorem la_nodup (S : St cx θ ρ H s) {is : List Nat} {as : List Addr} (h : All2 (fun i a => ∃ l, LA F H ρ i l a) is as) : ∀ {ks : List Nat}, mapO (keyAt F) is = some ks → All2 (fun k a => ρ[k]? = some a) ks as := by
  induction h with
  | nil => exact fun e => Option.some.inj e ▸ .nil
  | cons h _ ih =>
    intro ks e
    obtain ⟨l, k, g, _, r⟩ := h
    refine ob_el e fun k' hk e => ob_el e fun ks' hks e => ?_
    obtain rfl := Option.some.inj e
    unfold keyAt at hk
    rw [g] at hk
    exact .cons (Option.some.inj hk ▸ r) (ih hks)

theorem isTrueR_el {r : Option (Fl × AF × AH)} {P : Prop} (h : isTrueR r = true) (k : ∀ F H, r = some (.ret (.bool (.lit true)), F, H) → P) : P := by
  refine isS_el h fun p e h => ?_
  obtain ⟨f, F, H⟩ := p
  cases f with
  | ret v => cases v with
    | bool t => cases t with
      | lit b => exact k F H (e.trans (congrArg (fun b => some (Fl.ret (.bool (.lit b)), F, H)) h))
      | _ => exact nomatch h
    | _ => exact nomatch h
  | _ => exact nomatch h
theorem isNextR_el {r : Option (Fl × AF × AH)} {f : AF → AH → Bool} {P : Prop} (h : isNextR r f = true) (k : ∀ F H, r = some (.next, F, H) → f F H = true → P) : P := by
  refine isS_el h fun p e h => ?_
  obtain ⟨f, F, H⟩ := p
  cases f with
  | next => exact k F H e h
  | _ => exact nomatch h

theorem law_partC {n : Nat} {a1 a2 a3 a4 a11 a12 a13 : Addr} {tv ov : AV} {ops ranks : List AV} (SN : Snd cx θ (run fnT fuelL) n) (hA : AOk A n) (S : St cx θ ρ H s) (Fr : Frm θ cx env ns F ρ s) (hl : env.locals ∉ [a1, a2, a3, a4, a13, a11, a12]) (hn : [a1, a2, a3, a4, a13, a11, a12].Nodup)
    (hF : ∀ p ∈ getB a1 a11 a12 tv ov, F.loc.get p.1 = some p.2) (hH : ∀ p ∈ objB, H.get p.1 = some p.2) (t0 : ρ[0]? = some a2) (t1 : ρ[1]? = some a3) (t2 : ρ[2]? = some a4) (t4 : ρ[4]? = some a13) (h1 : Here cx θ s a1 (.list (cellsA θ.r))) (h11 : Here cx θ s a11 (.list ops)) (h12 : Here cx θ s a12 (.list ranks))
    (ft : flatA tv = true) (fo : flatA ov = true) (hc : isTrueR (runC θ.r ⟨ops, ranks, tv, ov⟩ totV) = true) {Ss : List Stmt} (hs : Css ns Ss partC) :
    Tri cx A (execs Ss env) s (LawEnd cx s) := by
  refine isTrueR_el hc fun F₅ H₅ hrun => ?_
  have S₄ : St cx θ [a1, a2, a3, a4, a13, a11, a12] (heapC θ.r ops ranks) s := S.picks (.cons h1 (.cons (here_list S t0 (hH _ (.head _)) rfl) (.cons (here_list S t1 (hH _ mem2) rfl) (.cons (here_list S t2 (hH _ mem3) rfl) (.cons (here_list S t4 (hH _ mem4) rfl) (.cons h11 (.cons h12 .nil))))))) hn (by decide : 7 < 1000)
  have Fr₄ : Frm θ cx env ns (frameC tv ov totV) [a1, a2, a3, a4, a13, a11, a12] s := Fr.pick (l := [(1, .ref 0), (2, .ref 1), (3, .ref 2), (4, .ref 3), (11, .ref 5), (12, .ref 6), (13, .ref 4), (15, tv), (16, ov), (17, totV)])
    (all_cons (by decide : 1 < 1000) (all_cons (by decide : 2 < 1000) (all_cons (by decide : 3 < 1000) (all_cons (by decide : 4 < 1000) (all_cons (by decide : 11 < 1000) (all_cons (by decide : 12 < 1000) (all_cons (by decide : 13 < 1000) (all_cons (by decide : 15 < 1000) (all_cons (by decide : 16 < 1000) (all_cons (by decide : 17 < 1000) all_none)))))))))) hl
    (fun i v' => (show ∀ p ∈ _, Hand F θ ρ _ p from all_cons (hand_top (hF _ (.head _)) rfl) (all_cons (hand_ref (hF _ mem2) t0 rfl) (all_cons (hand_ref (hF _ mem3) t1 rfl) (all_cons (hand_ref (hF _ mem4) t2 rfl) (all_cons (hand_top (hF _ mem5) rfl) (all_cons (hand_top (hF _ mem6) rfl) (all_cons (hand_ref (hF _ (.tail _ mem6)) t4 rfl)
      (all_cons (hand_flat (hF _ (.tail _ (.tail _ mem6))) ft) (all_cons (hand_flat (hF _ (.tail _ (.tail _ (.tail _ mem6)))) fo) (all_cons (hand_flat (hF _ (.tail _ (.tail _ (.tail _ (.tail _ mem6))))) rfl) all_none)))))))))) (i, v'))
    fun x' i k j hx' hj => nomatch hj
  refine Tri.mono (SN.exs hA Fr₄ S₄ hs hrun) fun fx s₃ ⟨ρ₅, l₅, S₅, hx, Fr₅⟩ => ?_
  obtain ⟨y, rfl, hy⟩ := hx
  obtain rfl := (show y = .bool true from hy)
  exact ⟨rfl, S₅.oldk.k, l₅.keep.os, S₅.bare⟩

theorem law_partB {n : Nat} {a1 a2 a3 a4 a9 a11 a12 a13 ac : Addr} {tv ov : AV} {ops ranks : List AV} (C : COk cx) (SN : Snd cx θ (run fnT fuelL) n) (hA : AOk A n) (S : St cx θ ρ H s) (Fr : Frm θ cx env ns F ρ s) (hn : [ac, a1, a2, a3, a4, a9, a11, a12, a13].Nodup) (hm : ∀ a ∈ [ac, a1, a2, a3, a4, a9, a11, a12, a13], a ∈ ρ)
    (l1 : LA F H ρ 1 (cellsA θ.r) a1) (l2 : LA F H ρ 2 numbersL a2) (l3 : LA F H ρ 3 formerL a3) (l4 : LA F H ρ 4 latterL a4) (l9 : LA F H ρ 9 ordersL a9) (l11 : LA F H ρ 11 ops a11) (l12 : LA F H ρ 12 ranks a12) (l13 : LA F H ρ 13 [] a13) (hc1 : H.get 1 = some (.cell (some threeV))) (rc : ρ[1]? = some ac)
    (g5 : F.loc.get 5 = some (.int (.off 14))) (g8 : F.loc.get 8 = some (.int (.hof 0))) (g17 : F.loc.get 17 = some (.int (.lit 0))) (g15 : F.loc.get 15 = some tv) (g16 : F.loc.get 16 = some ov) (f11 : ops.all flatA = true) (f12 : ranks.all flatA = true) (ft : flatA tv = true) (fo : flatA ov = true)
    (hcel : ∀ x k, slot x 0 ns = some (6, k) → env.cells.lookup x = some ac) (hc : isTrueR (runC θ.r ⟨ops, ranks, tv, ov⟩ totV) = true) {Ss : List Stmt} (hs : Css ns Ss (partB ++ partC)) :
    Tri cx A (execs Ss env) s (LawEnd cx s) := by
  obtain ⟨SB, SC, rfl, hB1, hC1⟩ := hs.cut rfl
  have qB : All2 (fun k a => [ac, a1, a2, a3, a4, a9, a11, a12, a13][k]? = some a) [2, 3, 4, 5, 8, 0] [a2, a3, a4, a9, a13, ac] := .cons rfl (.cons rfl (.cons rfl (.cons rfl (.cons rfl (.cons rfl .nil)))))
  have qC : All2 (fun k a => [ac, a1, a2, a3, a4, a9, a11, a12, a13][k]? = some a) [1, 2, 3, 4, 8, 6, 7] [a1, a2, a3, a4, a13, a11, a12] := .cons rfl (.cons rfl (.cons rfl (.cons rfl (.cons rfl (.cons rfl (.cons rfl .nil))))))
  have outB1 : ∀ {k a : Nat}, [ac, a1, a2, a3, a4, a9, a11, a12, a13][k]? = some a → k ∉ [2, 3, 4, 5, 8, 0] → a ∉ [a2, a3, a4, a9, a13, ac] := fun h hk m => hk (pick_mem hn h qB m)
  have S₂ : St cx θ [a2, a3, a4, a9, a13, ac] heapB s := S.picks (.cons (l2.here S rfl) (.cons (l3.here S rfl) (.cons (l4.here S rfl) (.cons (l9.here S rfl) (.cons (l13.here S rfl) (.cons (here_cell S rc hc1 rfl) .nil)))))) (nodup_picks hn qB (by decide)) (by decide : 6 < 1000)
  have Fr₂ : Frm θ cx env ns (frameB a1 a11 a12 tv ov) [a2, a3, a4, a9, a13, ac] s := Fr.pick (l := [(1, .top a1), (2, .ref 0), (3, .ref 1), (4, .ref 2), (5, .int (.off 14)), (8, .int (.hof 0)), (9, .ref 3), (11, .top a11), (12, .top a12), (13, .ref 4), (15, tv), (16, ov), (17, .int (.lit 0))])
    (all_cons (by decide : 1 < 1000) (all_cons (by decide : 2 < 1000) (all_cons (by decide : 3 < 1000) (all_cons (by decide : 4 < 1000) (all_cons (by decide : 5 < 1000) (all_cons (by decide : 8 < 1000) (all_cons (by decide : 9 < 1000) (all_cons (by decide : 11 < 1000) (all_cons (by decide : 12 < 1000) (all_cons (by decide : 13 < 1000) (all_cons (by decide : 15 < 1000) (all_cons (by decide : 16 < 1000) (all_cons (by decide : 17 < 1000) all_none)))))))))))))
    (fun m => Fr.nin (hm _ (pick_sub qB m)))
    (fun i v' => (show ∀ p ∈ _, Hand F θ ρ _ p from all_cons l1.top (all_cons (l2.ref rfl) (all_cons (l3.ref rfl) (all_cons (l4.ref rfl) (all_cons (hand_flat g5 rfl) (all_cons (hand_flat g8 rfl) (all_cons (l9.ref rfl) (all_cons l11.top (all_cons l12.top (all_cons (l13.ref rfl) (all_cons (hand_flat g15 ft) (all_cons (hand_flat g16 fo) (all_cons (hand_flat g17 rfl) all_none))))))))))))) (i, v'))
    fun x' i k j hx' hj => by
      change cond (Nat.beq i 6) (some 5) none = some j at hj
      refine cnd_el hj fun h6 h5 => ?_
      obtain rfl := Option.some.inj h5
      obtain rfl := beq_t h6
      exact ⟨ac, hcel x' k hx', rfl⟩
  refine ob3_el (runB_ok a1 a11 a12 tv ov) fun f F₂ H₂ hrunB hB => ?_
  cases f with
  | next =>
    obtain ⟨hF, hH⟩ := sm2 hB
    refine tri_append (Tri.mono (SN.exs hA Fr₂ S₂ hB1 hrunB) fun fx s₂ ⟨ρ₃, l₃, S₃, hx, Fr₃⟩ => ?_)
    obtain rfl := (show fx = .next from hx)
    have far : ∀ {i k a : Nat} {xs : List AV}, LA F H ρ i xs a → xs.all flatA = true → [ac, a1, a2, a3, a4, a9, a11, a12, a13][k]? = some a → k ∉ [2, 3, 4, 5, 8, 0] → Here cx θ s₂ a (.list xs) := fun l hf hk h =>
      (l.here S hf).step l₃ (fun m => Fr.nin (List.mem_singleton.mp m ▸ l.mem)) (outB1 hk h) C
    exact Tri.mono (law_partC SN hA S₃ Fr₃ (fun m => Fr.nin (hm _ (pick_sub qC m))) (nodup_picks hn qC (by decide)) (fun p hp => map_at hF hp) (fun p hp => map_at hH hp) (l₃.at rfl) (l₃.at rfl) (l₃.at rfl) (l₃.at rfl) (far (k := 1) l1 rfl rfl (by decide)) (far (k := 6) l11 f11 rfl (by decide)) (far (k := 7) l12 f12 rfl (by decide)) ft fo hc hC1)
      fun fl s' ⟨q1, q2, q3, q4⟩ => ⟨q1, q2, q3.trans l₃.keep.os, q4⟩
  | _ => exact no_el hB

theorem pickA_el {r : Nat} {pk : Pick} {P : Prop} (h : pickA r F H = some pk) (k : isL F H 1 (cellsA r) = true → isL F H 2 numbersL = true → isL F H 3 formerL = true → isL F H 4 latterL = true → isL F H 9 ordersL = true → isL F H 13 [] = true → F.loc.get 5 = some (.int (.off 14)) → F.loc.get 8 = some (.int (.hof 0)) → F.loc.get 17 = some (.int (.lit 0)) →
    H.get 1 = some (.cell (some threeV)) → apartA F = true → flatL F H 11 = some pk.ops → flatL F H 12 = some pk.ranks → F.loc.get 15 = some pk.top → F.loc.get 16 = some pk.once → flatA pk.top = true → flatA pk.once = true → P) : P :=
  cnd_el h fun c h => ob_el h fun ops hops h => ob_el h fun ranks hranks h => ob_el h fun top htop h => ob_el h fun once honce h => cnd_el h fun hfl h => have e := Option.some.inj h;
    have ⟨c, c11⟩ := and_t c; have ⟨c, c10⟩ := and_t c; have ⟨c, c9⟩ := and_t c; have ⟨c, c8⟩ := and_t c; have ⟨c, c7⟩ := and_t c; have ⟨c, c6⟩ := and_t c; have ⟨c, c5⟩ := and_t c; have ⟨c, c4⟩ := and_t c; have ⟨c, c3⟩ := and_t c; have ⟨c1, c2⟩ := and_t c;
    k c1 c2 c3 c4 c5 c6 (sameO_out c7) (sameO_out c8) (sameO_out c9) (cellIs_out c10) c11 (e ▸ hops) (e ▸ hranks) (e ▸ htop) (e ▸ honce) (e ▸ flatI_flat (and_t hfl).1) (e ▸ flatI_flat (and_t hfl).2)
theorem law_rest {n : Nat} (C : COk cx) (SN : Snd cx θ (run fnT fuelL) n) (hA : AOk A n) (hcase : caseOk totV θ.r = true) {ρA : List Addr} (Fr : Frm θ cx env ns frameA ρA s) (S : St cx θ ρA (heapA θ.r) s) {Ss : List Stmt} (hcss : Css ns Ss (partA ++ (partB ++ partC))) :
    Tri cx A (execs Ss env) s (LawEnd cx s) := by
  refine isNextR_el hcase fun F H hrunA h => isS_el h fun pk hpick hrunC => pickA_el hpick fun c1 c2 c3 c4 c9 c13 g5 g8 g17 ec cap hops hranks g15 g16 ft fo => isS_el cap fun ks hks hap => ?_
  obtain ⟨SA, SBC, rfl, hA1, hBC⟩ := hcss.cut rfl
  refine tri_append (Tri.mono (SN.exs hA Fr S hA1 hrunA) fun fx s₁ ⟨ρ₁, l₁, S₁, hx, Fr₁⟩ => ?_)
  obtain rfl := (show fx = .next from hx)
  obtain ⟨a1, l1⟩ := la_of S₁ (isL_out c1)
  obtain ⟨a2, l2⟩ := la_of S₁ (isL_out c2)
  obtain ⟨a3, l3⟩ := la_of S₁ (isL_out c3)
  obtain ⟨a4, l4⟩ := la_of S₁ (isL_out c4)
  obtain ⟨a9, l9⟩ := la_of S₁ (isL_out c9)
  obtain ⟨a13, l13⟩ := la_of S₁ (isL_out c13)
  obtain ⟨a11, l11⟩ := la_of S₁ (flatL_out hops).1
  obtain ⟨a12, l12⟩ := la_of S₁ (flatL_out hranks).1
  obtain ⟨ac, _, rc, _⟩ := S₁.obj _ _ ec
  have hall : All2 (fun k a => ρ₁[k]? = some a) (1 :: ks) [ac, a1, a2, a3, a4, a9, a11, a12, a13] := .cons rc (la_nodup S₁ (.cons ⟨_, l1⟩ (.cons ⟨_, l2⟩ (.cons ⟨_, l3⟩ (.cons ⟨_, l4⟩ (.cons ⟨_, l9⟩ (.cons ⟨_, l11⟩ (.cons ⟨_, l12⟩ (.cons ⟨_, l13⟩ .nil)))))))) hks)
  exact Tri.mono (law_partB C SN hA S₁ Fr₁ (nodup_picks S₁.nodup hall (apartN_out hap)) (fun _ m => pick_sub hall m) l1 l2 l3 l4 l9 l11 l12 l13 ec rc g5 g8 g17 g15 g16 (all_flat (flatL_out hops).2) (all_flat (flatL_out hranks).2) ft fo
    (fun x k hx => let ⟨a, ha, hρ⟩ := Fr.cel x 6 k 1 hx rfl; ha.trans ((l₁.at hρ).symm.trans rc)) hrunC hBC) fun fl s' ⟨q1, q2, q3, q4⟩ => ⟨q1, q2, q3.trans l₁.keep.os, q4⟩
end
end Mine
namespace Mine
open PySem PySem.W PyProof.Rows PySem.Calls

/-! the text of _law_cells, behind its first statement -/
noncomputable def modB (e : Expr) : Bool := isBinOp e fun l op r _ => nmB "k" l && (Nat.beq op.ctorIdx 5 && isConstant r fun c _ _ => coint c fun i => ieq i 11)
theorem modB_el {e : Expr} {P : Prop} (h : modB e = true) (g : ∀ p kd q r, e = .BinOp (.Name "k" p) .Mod (.Constant (.int 11) kd q) r → P) : P :=
  isBinOp_el h fun l op r s e1 h => have ⟨h1, h⟩ := and_t h; have ⟨h2, h⟩ := and_t h; nmB_el h1 fun p e2 => isConstant_el h fun c kd q e3 h => coint_el h fun i e4 h => g p kd q s (by rw [e1, e2, e3, e4, ieq_iff.mp h, Operator.Mod.elim (motive := fun o => o = .Mod) op (beq_t h2) rfl])
noncomputable def atB (e : Expr) : Bool := isSubscript e fun o i _ => nmB "cells" o && modB i
theorem atB_el {e : Expr} {P : Prop} (h : atB e = true) (g : ∀ p i q, e = .Subscript (.Name "cells" p) i q → modB i = true → P) : P :=
  isSubscript_el h fun o i q e1 h => nmB_el (and_t h).1 fun p e2 => g p i q (by rw [e1, e2]) (and_t h).2
noncomputable def scB (e : Expr) : Bool := isSubscript e fun o i _ => nmB "script" o && nmB "k" i
theorem scB_el {e : Expr} {P : Prop} (h : scB e = true) (g : ∀ p q r, e = .Subscript (.Name "script" p) (.Name "k" q) r → P) : P :=
  isSubscript_el h fun o i r e1 h => nmB_el (and_t h).1 fun p e2 => nmB_el (and_t h).2 fun q e3 => g p q r (by rw [e1, e2, e3])
noncomputable def putB (st : Stmt) : Bool := stAssign st fun ts w _ => (is1 ts atB) && isBinOp w fun l op r _ => atB l && (scB r && Nat.beq op.ctorIdx 0)
theorem putB_el {st : Stmt} {P : Prop} (h : putB st = true) (g : ∀ t l r p q, st = .Assign [t] (.BinOp l .Add r p) q → atB t = true → atB l = true → scB r = true → P) : P :=
  stAssign_el h fun ts w q e1 h => is1_el (and_t h).1 fun t e2 ht => isBinOp_el (and_t h).2 fun l op r p e3 h => have ⟨h1, h⟩ := and_t h; g t l r p q (by rw [e1, e2, e3, Operator.Add.elim (motive := fun o => o = .Add) op (beq_t (and_t h).2) rfl]) ht h1 (and_t h).1
noncomputable def forB (st : Stmt) : Bool := stFor st fun t it b o _ => nmB "k" t && ((is1 b putB) && (none? o && isCl it fun f as _ => nmB "range" f && is1 as (call1B "len" "script")))
theorem forB_el {st : Stmt} {P : Prop} (h : forB st = true) (g : ∀ p q a r b u, st = .For (.Name "k" p) (.Call (.Name "range" q) [a] [] r) [b] [] u → call1B "len" "script" a = true → putB b = true → P) : P :=
  stFor_el h fun t it b o u e1 h => have ⟨h1, h⟩ := and_t h; have ⟨h2, h⟩ := and_t h; have ⟨h3, h⟩ := and_t h; nmB_el h1 fun p e2 => is1_el h2 fun b e3 hb => isCl_el h fun f as r e4 h => nmB_el (and_t h).1 fun q e5 => is1_el (and_t h).2 fun a e6 ha => g p q a r b u (by rw [e1, e2, e3, e4, e5, e6, none?_out h3]) ha hb
noncomputable def cellsTail (b : List Stmt) : Bool := isC b fun f r => forB f && retB (nmB "cells") r
theorem cellsTail_el {b : List Stmt} {P : Prop} (h : cellsTail b = true) (g : ∀ f p q, b = [f, .Return (some (.Name "cells" p)) q] → forB f = true → P) : P :=
  isC_el h fun f r e1 h => retB_el (and_t h).2 fun e q e2 h2 => nmB_el h2 fun p e3 => g f p q (by rw [e1, e2, e3]) (and_t h).1

/-- the numbers it starts from -/
noncomputable def litV (i : Int) : AV := .int (.lit i)
noncomputable def startL : List AV := [litV 3, litV (-2), litV 5, litV 7, litV 2, litV (-3), litV 4, litV 1, litV 6, litV (-5), litV 816]
noncomputable def startS : List AS := [.setL 1 (.lst (startL.map .cst))]
noncomputable def frameC0 (sc : Nat) : AF := ⟨ofL [(0, .top sc)], []⟩
noncomputable def outC (sc : Nat) : Option (Option AV × Option AV × Option AO) := ob3 ((run fnT fuelL).exs (frameC0 sc) AH.nil startS) fun f F H => match f with
  | .next => some (F.loc.get 0, F.loc.get 1, H.get 0)
  | _ => none
theorem outC_ok (sc : Nat) : outC sc = some (some (.top sc), some (.ref 0), some (.list startL)) := by kernel_rfl

/-- a number, at most B -/
noncomputable def SmallI (B : Nat) (x : Value) : Prop := ∃ (i : Int) (t : Tok), x = .int i t ∧ i.natAbs ≤ B
/-- eleven numbers, each of them at most B -/
noncomputable def Bd (B : Nat) (xs : Array Value) : Prop := xs.size = 11 ∧ ∀ (j : Nat) (x : Value), xs[j]? = some x → SmallI B x
noncomputable def AtL (s : Shared) (l : Addr) (B : Nat) : Prop := ∃ xs n, s.heap.get? l = some { cls := .type "list", data := .seq xs n } ∧ Bd B xs
theorem Bd.mono {B B' : Nat} {xs : Array Value} (h : Bd B xs) (hB : B ≤ B') : Bd B' xs := ⟨h.1, fun j x e => let ⟨i, t, a, b⟩ := h.2 j x e; ⟨i, t, a, Nat.le_trans b hB⟩⟩
theorem Bd.set {B : Nat} {xs : Array Value} (h : Bd B xs) {k : Nat} {i : Int} {t : Tok} (hi : i.natAbs ≤ B) : Bd B (xs.setIfInBounds k (.int i t)) := by
  refine ⟨by rw [Array.size_setIfInBounds]; exact h.1, fun j x e => ?_⟩
  rw [Array.getElem?_setIfInBounds] at e
  by_cases hk : k = j
  · rw [if_pos hk] at e
    by_cases hj : k < xs.size
    · rw [if_pos hj] at e; exact Option.some.inj e ▸ ⟨i, t, rfl, hi⟩
    · rw [if_neg hj] at e; exact no_el e
  · rw [if_neg hk] at e; exact h.2 j x e

section
variable {prog : Program} {w : World} {A : Around} {E : Value → Shared → Prop} {s : Shared}
/-- a list's item is put: the object itself -/
theorem setItem_exact {l : Addr} {items : Array Value} {m : Nat} {k : Int} {t : Tok} {v : Value} {Q : Unit → Shared → Prop} (ho : s.heap.get? l = some { cls := .type "list", data := .seq items m })
    (h0 : 0 ≤ k) (hfit : k < 2 ^ 63) (hn : k < items.size)
    (hQ : ∀ h', (∃ m', h'.get? l = some { cls := .type "list", data := .seq (items.setIfInBounds k.toNat v) m' }) → Heap.SameBut l s.heap h' → Q () { s with heap := h' }) :
    wpAny (model prog w) A (setItem (.ref l) (.int k t) v) Q E s := by
  have hl : s.heap.IsList l items := ⟨_, ho, rfl, _, rfl⟩
  unfold setItem
  try with_reducible refine wpAny_holding ?_
  first | refine wpAny_bind (wpAny_pure ?_) | skip
  refine wpAny_bind (wpAny_sequenceKey hl.typeIs (by decide) ?_)
  refine wpAny_bind (wpAny_callSpecial?_slot (name := Str.ofString "__setitem__") hl.typeIs slot_list_setitem
    (wpAny_call_entry slot_list_setitem hl.typeIs entry_list_setitem ?_ (args_list_setitem _ _ _)))
  show wpAny _ _ (Builtin.List.listSubscript? (.int k t) >>= _) _ _ s
  refine wpAny_bind (wpAny_listSubscript_int (fitsIndex_of h0 hfit) ?_)
  clear hfit
  obtain ⟨j, rfl⟩ := Int.eq_ofNat_of_zero_le h0
  have hj : j < items.size := Int.ofNat_lt.mp hn
  have hx' : items[j]? = some items[j] := Array.getElem?_eq_getElem hj
  show wpAny _ _ ((seqItemAt l j >>= fun r => pure (r.map (j, ·))) >>= _) _ _ s
  refine wpAny_bind (wpAny_bind (wpAny_seqItemAt ho rfl (wpAny_pure ?_)))
  rw [hx']
  show wpAny _ _ (setSeqItemAt l j v >>= _) _ _ s
  have hfin : ∃ m', (s.heap.update l (Obj.mapSeq (·.setIfInBounds j v))).get? l = some { cls := .type "list", data := .seq (items.setIfInBounds j v) m' } := ⟨_, Heap.get?_update_self _ ho rfl⟩
  refine wpAny_bind (wpAny_setSeqItemAt ho rfl ?_)
  first
    | exact wpAny_bind (wpAny_pure (wpAny_pure ⟨.none, rfl, wpAny_pure (hQ _ hfin (Heap.SameBut.update ..))⟩))
    | exact wpAny_pure ⟨.none, rfl, wpAny_pure (hQ _ hfin (Heap.SameBut.update ..))⟩
end

section
variable {cx : Cx} {θ : Th} {X ρ ρ' : List Addr} {H H' : AH} {s s' s'' : Shared} {A : Around} {v : AV} {x y z : Value} {E : Value → Shared → Prop} {env : Env} {ns : Names} {F F' : AF} {fd : FuncData} {b : List Stmt}

theorem load_loc (Fr : Frm θ cx env ns F ρ s) {x : Str} {i : Nat} {p : Pos} {Q : Value → Shared → Prop} (hx : slot x 0 ns = some (i, .local)) (hv : F.loc.get i = some v) (h : ∀ y, VRel θ ρ v y → Q y s)
    (hd : (x == ("__debug__" : Str)) = false := by decide) : Tri cx A (eval (.Name x p) env) s Q := by
  obtain ⟨m, hn, hm⟩ := Fr.loc
  obtain ⟨y, hy, hr⟩ := hm x i v hx hv
  have hk : env.kindOf x = some .local := (Fr.names x i _ hx).resolve_right fun e => nomatch e.1
  exact wpAny_Name (wpAny_loadName_local Fr.kind hk hn hy (h y hr)) hd
theorem Frm.toks (Fr : Frm θ cx env ns F ρ s) {tk : Nat} : Frm θ cx env ns F ρ { s with toks := tk } := ⟨Fr.kind, Fr.names, Fr.few, Fr.glob, Fr.blt, Fr.nin, Fr.old, Fr.loc, Fr.cel⟩
theorem St.toks (S : St cx θ ρ H s) {tk : Nat} : St cx θ ρ H { s with toks := tk } := S.same rfl rfl

/-- the names of _law_cells -/
structure CNames (ns : Names) : Prop where
  script : slot "script" 0 ns = some (0, .local)
  cells : slot "cells" 0 ns = some (1, .local)
  k : slot "k" 0 ns = some (2, .local)
noncomputable def frameC1 (sc l : Nat) : AF := ⟨ofL [(0, .top sc), (1, .top l)], []⟩
noncomputable def frameC2 (sc l : Nat) (k : Int) : AF := (frameC1 sc l).store 2 (.int (.lit k))
theorem frameC2_get {sc l : Nat} {k : Int} : (frameC2 sc l k).loc.get 0 = some (.top sc) ∧ (frameC2 sc l k).loc.get 1 = some (.top l) ∧ (frameC2 sc l k).loc.get 2 = some (.int (.lit k)) := ⟨by kernel_rfl, by kernel_rfl, by kernel_rfl⟩

theorem mod_ok (N : CNames ns) {sc l k : Nat} {i : Expr} {Q : Value → Shared → Prop} (Fr : Frm θ cx env ns (frameC2 sc l k) ρ s) (hi : modB i = true)
    (h : ∀ t tk, Q (.int ((k % 11 : Nat) : Int) t) { s with toks := tk }) : Tri cx A (eval i env) s Q := by
  refine modB_el hi fun p kd q r ei => ?_
  subst ei
  refine wpAny_BinOp (load_loc Fr N.k frameC2_get.2.2 fun y hy => ?_)
  obtain ⟨j, t, rfl, hj⟩ := hy
  obtain rfl := (show j = (k : Int) from hj)
  refine wpAny_Constant_int (mod_int' (by decide) ?_)
  rw [show ((k : Int).fmod 11) = ((k % 11 : Nat) : Int) from (Int.ofNat_fmod k 11).symm]
  exact h _ _

theorem small_fit {n m : Nat} (h : n < m) (hz : m < 1000) : 0 ≤ (n : Int) ∧ (n : Int) < 2 ^ 63 ∧ (n : Int) < m := ⟨Int.natCast_nonneg n, (fit_nat h (Nat.lt_trans hz (by decide))).2, Int.ofNat_lt.mpr h⟩
theorem put_ok (C : COk cx) (N : CNames ns) {sc l k B : Nat} {ws : Array Value} {st : Stmt} (S : St cx θ [] AH.nil s) (Fr : Frm θ cx env ns (frameC2 sc l k) [] s) (hst : putB st = true) (hsc : cx.h₀.IsList sc ws) (hk : k < ws.size) (hk2 : k < 100)
    (hw : ∀ (j : Nat) (x : Value), ws[j]? = some x → SmallI B x) (hl : AtL s l ((k + 1) * B)) (hl1 : cx.h₁.objs.size ≤ l) (hlL : l ≠ env.locals) :
    Tri cx A (exec st env) s fun f s' => f = .next ∧ Lk cx [l] [] s [] s' ∧ St cx θ [] AH.nil s' ∧ Frm θ cx env ns (frameC2 sc l k) [] s' ∧ AtL s' l ((k + 1 + 1) * B) := by
  obtain ⟨xs, m, ho, hB⟩ := hl
  have hL : s.heap.IsList l xs := ⟨_, ho, rfl, _, rfl⟩
  have hW : s.heap.IsList sc ws := let ⟨o, a, b⟩ := hsc; ⟨o, S.base _ _ a, b⟩
  have hm11 : k % 11 < 11 := Nat.mod_lt _ (by decide)
  obtain ⟨f1, f2, _⟩ := small_fit hm11 (by decide)
  obtain ⟨f3, f4, _⟩ := small_fit (Nat.lt_succ_self k) (Nat.lt_trans (Nat.succ_lt_succ hk2) (by decide))
  have h11 : k % 11 < xs.size := hB.1.symm ▸ hm11
  obtain ⟨u, tu, hu, hub⟩ := hB.2 (k % 11) _ (Array.getElem?_eq_getElem h11)
  have hxu : xs[k % 11]? = some (.int u tu) := (Array.getElem?_eq_getElem h11).trans (congrArg some hu)
  obtain ⟨g, tg, hg, hgb⟩ := hw k _ (Array.getElem?_eq_getElem hk)
  have hwg : ws[k]? = some (.int g tg) := (Array.getElem?_eq_getElem hk).trans (congrArg some hg)
  refine putB_el hst fun t a r p q es ht ha hr => atB_el ht fun p1 i1 q1 et hi1 => atB_el ha fun p2 i2 q2 ea hi2 => scB_el hr fun p3 q3 r3 er => ?_
  subst er ea et es
  refine wpAny_Assign_Subscript (wpAny_BinOp (Subscript_ (load_loc Fr N.cells frameC2_get.2.1 fun y hy => ?_))) rfl
  obtain rfl := (show y = .ref l from hy)
  refine mod_ok N Fr hi2 fun t1 tk1 => ?_
  refine item_list (k := ((k % 11 : Nat) : Int)) (items := xs) hL f1 f2 hxu ?_ (modB_el hi2 fun _ _ _ _ e => e ▸ rfl) (by intro _; rfl)
  refine Subscript_ (load_loc Fr.toks N.script frameC2_get.1 fun y hy => ?_)
  obtain rfl := (show y = .ref sc from hy)
  refine load_loc Fr.toks N.k frameC2_get.2.2 fun y hy => ?_
  obtain ⟨j, t, rfl, hj⟩ := hy
  obtain rfl := (show j = (k : Int) from hj)
  refine item_list (k := (k : Int)) (items := ws) hW f3 f4 hwg (PySem.P.add_int (load_loc (Fr.toks) N.cells frameC2_get.2.1 fun y hy => ?_))
  obtain rfl := (show y = .ref l from hy)
  refine mod_ok N (Fr.toks) hi1 fun t2 tk2 => ?_
  refine setItem_exact (s := { s with toks := tk2 }) ho (k := ((k % 11 : Nat) : Int)) f1 f2 (Int.ofNat_lt.mpr h11) fun h' ⟨m', hn⟩ hs => ?_
  have lk : Lk cx [l] [] s [] { s with toks := tk2, heap := h' } := ⟨⟨[], rfl, fun _ m => nomatch m⟩, fun b o e hb _ => (hs.2 b fun z => hb (z ▸ .head _)).trans e, rfl, Nat.le_of_eq hs.1.symm⟩
  refine ⟨rfl, lk, S.aside (fun m => nomatch m) hl1 hs rfl, Fr.step C lk (nin1 hlL.symm), _, _, hn, Bd.set (hB.mono (Nat.mul_le_mul_right _ (Nat.le_succ _))) ?_⟩
  exact Nat.le_trans (Int.natAbs_add_le _ _) (Nat.le_trans (Nat.add_le_add hub hgb) (Nat.le_of_eq (Nat.succ_mul (k + 1) B).symm))
end
end Mine
namespace Mine
open PySem PySem.W PyProof.Rows PySem.Calls

theorem okR_small {n : Nat} (h : n ≤ 63) : okR (n : Int) = true := and_i (ilt_iff.mpr (Int.lt_of_lt_of_le (by decide) (Int.natCast_nonneg n))) (ilt_iff.mpr (Int.ofNat_lt.mpr (Nat.lt_of_le_of_lt h (by decide))))

section
variable {cx : Cx} {θ : Th} {X ρ ρ' : List Addr} {H H' : AH} {s s' s'' : Shared} {A : Around} {v : AV} {x y z : Value} {E : Value → Shared → Prop} {env : Env} {ns : Names} {F F' : AF} {fd : FuncData} {b : List Stmt}

theorem nil_of (S : St cx θ ρ AH.nil s) : ρ = [] := List.eq_nil_of_length_eq_zero S.len
theorem AtL.keep {l : Addr} {B : Nat} (a : AtL s l B) (C : COk cx) (lk : Lk cx X [] s ρ' s') (hl : cx.h₁.objs.size ≤ l) (hX : l ∉ X) : AtL s' l B := by
  obtain ⟨xs, n, ho, hB⟩ := a
  exact ⟨xs, n, lk.keep.heap _ _ ho (fun m => hX (List.append_nil X ▸ m)) (fun h => Nat.lt_irrefl _ (Nat.lt_of_lt_of_le (C.tabs _ h) hl)), hB⟩

noncomputable def LoopEnd (cx : Cx) (θ : Th) (env : Env) (ns : Names) (sc l I B : Nat) (s s' : Shared) : Prop :=
  Lk cx [env.locals, I, l] [] s [] s' ∧ St cx θ [] AH.nil s' ∧ Frm θ cx env ns (frameC1 sc l) [] s' ∧ AtL s' l B
theorem LoopEnd.step {sc l I B : Nat} (lk : Lk cx [env.locals, I, l] [] s [] s') (h : LoopEnd cx θ env ns sc l I B s' s'') : LoopEnd cx θ env ns sc l I B s s'' := ⟨lk.trans h.1, h.2⟩

theorem cells_loop (C : COk cx) (N : CNames ns) {sc l I B : Nat} {ws : Array Value} {st : Stmt} {px : Pos} (hA : AOk A 8) (hst : putB st = true) (hsc : cx.h₀.IsList sc ws) (hn : ws.size ≤ 63)
    (hw : ∀ (j : Nat) (x : Value), ws[j]? = some x → SmallI B x) (hl1 : cx.h₁.objs.size ≤ l) (hlL : l ≠ env.locals) (hlI : l ≠ I) (hIL : I ≠ env.locals) (d : Nat) : ∀ (k : Nat) (s : Shared), k + d = ws.size → St cx θ [] AH.nil s → Frm θ cx env ns (frameC1 sc l) [] s → ItOk cx θ [] s I (.items (upFrom (k : Int) d)) → AtL s l ((k + 1) * B) →
    codeAny (model cx.prog cx.w) A (.forLoop (.Name "k" px) (.ref I) [st] [] env) (fun r s' => r = .ok .next ∧ LoopEnd cx θ env ns sc l I ((ws.size + 1) * B) s s') s := by
  induction d with
  | zero =>
    intro k s hk S Fr hi ha
    refine forLoop_once (Tri.mono (leaf_next hA S hi rfl) fun r s₁ ⟨ρ₁, l₁, S₁, hr⟩ => ?_)
    obtain rfl := (show r = none from hr)
    cases nil_of S₁
    exact wpAny_execs_nil ⟨rfl, l₁.wide fun z hz => List.mem_singleton.mp hz ▸ mem2, S₁, Fr.step C l₁ (nin1 hIL.symm), (show k = ws.size from hk) ▸ ha.keep C l₁ hl1 (nin1 hlI)⟩
  | succ d ih =>
    intro k s hk S Fr hi ha
    have hkl : k < ws.size := hk ▸ Nat.lt_add_of_pos_right (Nat.succ_pos d)
    refine forLoop_once (Tri.mono (leaf_next hA S hi rfl) fun r s₁ ⟨ρ₁, l₁, S₁, hr⟩ => ?_)
    obtain ⟨y, rfl, hv, i₁⟩ := hr
    cases nil_of S₁
    refine wpAny_assign_Name (store_ok S₁ (Fr.step C l₁ (nin1 hIL.symm)) N.k hv fun s₂ l₂ S₂ Fr₂ => ?_)
    refine wpAny_execs_cons (Tri.mono (put_ok (k := k) C N S₂ Fr₂ hst hsc hkl (Nat.lt_of_lt_of_le hkl (Nat.le_trans hn (by decide))) hw ((ha.keep C l₁ hl1 (nin1 hlI)).keep C l₂ hl1 (nin1 hlL)) hl1 hlL) fun f s₃ ⟨hf, l₃, S₃, Fr₃, a₃⟩ => ?_)
    subst hf
    refine wpAny_execs_nil ?_
    have lk : Lk cx [env.locals, I, l] [] s [] s₃ := (l₁.wide fun z hz => List.mem_singleton.mp hz ▸ mem2).trans ((l₂.wide fun z hz => List.mem_singleton.mp hz ▸ .head _).trans (l₃.wide fun z hz => List.mem_singleton.mp hz ▸ mem3))
    exact codeAny_mono (ih (k + 1) s₃ ((Nat.add_right_comm k 1 d).trans hk) S₃ (Frm.forget (i := 2) (v := .int (.lit (k : Int))) (by decide) (by kernel_rfl) Fr₃) ((i₁.step C l₂ (nin1 hIL)).step C l₃ (nin1 hlI.symm)) a₃) fun r s' ⟨hr, h⟩ => ⟨hr, h.step lk⟩

theorem cells_iter (C : COk cx) (N : CNames ns) {sc : Nat} {ws : Array Value} {a : Expr} {q r : Pos} (hr : cx.mg "range" = none ∧ cx.mb "range" = some (.type "range")) (hl : cx.mg "len" = none ∧ cx.mb "len" = some (.builtin "len")) (hrk : env.kindOf "range" = some .globalImplicit) (hlk : env.kindOf "len" = some .globalImplicit)
    (S : St cx θ [] AH.nil s) (Fr : Frm θ cx env ns F [] s) (hF : F.loc.get 0 = some (.top sc)) (ha : call1B "len" "script" a = true) (hsc : cx.h₀.IsList sc ws) (hn : ws.size ≤ 63) :
    Tri cx A (eval (.Call (.Name "range" q) [a] [] r) env) s fun x s₁ => ∀ {A'}, AOk A' 8 → Tri cx A' (pyIter x) s₁ (IterPost cx θ [] s AH.nil (.items (upFrom 0 ws.size))) := by
  refine call1B_el ha fun p1 p2 p3 ea => ?_
  subst ea
  have hW : s.heap.IsList sc ws := let ⟨o, a, b⟩ := hsc; ⟨o, S.base _ _ a, b⟩
  refine wpAny_Call_ofName (env_builtin C Fr.kind hrk Fr.glob Fr.blt S.base (by decide) hr.1 hr.2 ?_)
  refine callWith_at rfl (fun M h _ => ⟨.machine, .inr (.inl rfl), Looks.of_pure rfl⟩) ?_
  refine wpAny_items_cons ?_ rfl
  refine wpAny_Call_ofName (env_builtin C Fr.kind hlk Fr.glob Fr.blt S.base (by decide) hl.1 hl.2 ?_)
  refine callWith_at rfl (fun M h _ => ⟨.machine, .inr (.inl rfl), Looks.of_pure rfl⟩) ?_
  refine wpAny_items_cons (load_loc Fr N.script hF fun y hy => ?_) rfl
  obtain rfl := (show y = .ref sc from hy)
  refine wpAny_items_nil ⟨C.K.keeps S.base, ?_⟩
  refine len_list hW (lt63 (Nat.le_trans hn (by decide))) ?_
  refine wpAny_items_nil ⟨C.K.keeps S.base, ?_⟩
  have hrg : rangeItems [.int (.lit (ws.size : Int))] = some (upFrom 0 ws.size) := by
    show cond (okR (ws.size : Int)) _ _ = _
    rw [okR_small hn]; rfl
  have hv1 : VRel θ [] (.int (.lit (ws.size : Int))) (.int (ws.size : Int) (s.toks + 1)) := ⟨_, _, rfl, rfl⟩
  refine Tri.mono (leaf_range (S.toks (tk := s.toks + 1 + 1)) (.cons hv1 .nil) hrg) fun x s₁ ⟨ρ₁, l₁, S₁, h⟩ A' hA' => ?_
  refine Tri.mono (h hA') fun y s₂ ⟨I, h1, h2, h3⟩ => ⟨I, h1, Nat.le_trans l₁.keep.grow h2, ?_⟩
  exact Aft.step (s := s) (s' := { s with toks := s.toks + 1 + 1 }) (Lk.same rfl rfl) (h3.step l₁)
end
end Mine
namespace Mine
open PySem PySem.W PyProof.Rows PySem.Calls

structure CellsFn (cx : Cx) : Prop where
  ok : ∃ fd b, HandOk cx 213 fd b ["script"] ∧ fd.scope.isGenerator = false ∧ Css fd.scope.names (b.take 1) startS ∧ cellsTail (b.drop 1) = true ∧ CNames fd.scope.names ∧ fd.scope.names.length + 1 < 2 ^ 10 ∧
    fd.scope.names.lookup ("range" : Str) = some .globalImplicit ∧ fd.scope.names.lookup ("len" : Str) = some .globalImplicit
  rng : cx.mg "range" = none ∧ cx.mb "range" = some (.type "range")
  len : cx.mg "len" = none ∧ cx.mb "len" = some (.builtin "len")

section
variable {cx : Cx} {θ : Th} {X ρ ρ' : List Addr} {H H' : AH} {s s' s'' : Shared} {A : Around} {v : AV} {x y z : Value} {E : Value → Shared → Prop} {env : Env} {ns : Names} {F F' : AF} {fd : FuncData} {b : List Stmt}

theorem start_small {B : Nat} (hB : 816 ≤ B) {l : List AV} {vs : List Value} (h : All2 (VRel θ ρ) l vs) : (∀ a ∈ l, ∃ i : Int, a = litV i ∧ i.natAbs ≤ 816) → ∀ (j : Nat) (x : Value), vs[j]? = some x → SmallI B x := by
  induction h with
  | nil => exact fun _ j x e => no_el e
  | cons h t ih =>
    intro hl j x e
    cases j with
    | zero =>
      obtain ⟨i, rfl, hi⟩ := hl _ (.head _)
      obtain ⟨i', t, rfl, hi'⟩ := h
      obtain rfl := (show i' = i from hi')
      exact Option.some.inj e ▸ ⟨i', t, rfl, Nat.le_trans hi hB⟩
    | succ j => exact ih (fun a m => hl a (.tail _ m)) j x e
theorem start_bd {B : Nat} (hB : 816 ≤ B) {vs : Array Value} (h : All2 (VRel θ ρ) startL vs.toList) : Bd B vs :=
  ⟨h.size.symm, fun j x e => start_small hB h (all_cons ⟨_, rfl, by decide⟩ (all_cons ⟨_, rfl, by decide⟩ (all_cons ⟨_, rfl, by decide⟩ (all_cons ⟨_, rfl, by decide⟩ (all_cons ⟨_, rfl, by decide⟩ (all_cons ⟨_, rfl, by decide⟩ (all_cons ⟨_, rfl, by decide⟩ (all_cons ⟨_, rfl, by decide⟩ (all_cons ⟨_, rfl, by decide⟩ (all_cons ⟨_, rfl, by decide⟩ (all_cons ⟨_, rfl, by decide⟩ all_none))))))))))) j x (Array.getElem?_toList.trans e)⟩

/-- behind the first statement -/
theorem law_cells2 {n : Nat} (C : COk cx) (CF : CellsFn cx) (hA : AOk A 8) {sc B l a : Nat} {ws : Array Value} {Ss : List Stmt} (N : CNames fd.scope.names) (hrk : fd.scope.names.lookup ("range" : Str) = some .globalImplicit) (hlk : fd.scope.names.lookup ("len" : Str) = some .globalImplicit) (hsc : cx.h₀.IsList sc ws) (hn : ws.size ≤ 63) (hw : ∀ (j : Nat) (x : Value), ws[j]? = some x → SmallI B x)
    (S : St cx θ [] AH.nil s) (Fr : Frm θ cx (callEnv fd n a) fd.scope.names (frameC1 sc l) [] s) (hla : AtL s l (1 * B)) (hl1 : cx.h₁.objs.size ≤ l) (hlL : l ≠ n) (hs : cellsTail Ss = true) :
    Tri cx A (execs Ss (callEnv fd n a)) s fun f s' => f = .ret (.ref l) ∧ (∃ I, s.heap.objs.size ≤ I ∧ Lk cx [n, I, l] [] s [] s') ∧ St cx θ [] AH.nil s' ∧ AtL s' l ((ws.size + 1) * B) := by
  refine cellsTail_el hs fun f p q es hf => forB_el hf fun p1 q1 a1 r1 st u ef ha hst => ?_
  subst ef es
  refine wpAny_execs_cons (wpAny_For (Tri.mono (cells_iter C N CF.rng CF.len hrk hlk S Fr (by kernel_rfl) ha hsc hn) fun xv s₄ q4 => Tri.mono (q4 hA) fun it s₅ q5 => ?_) fun x => rfl)
  obtain ⟨I, rfl, hI, ρ₅, l₅, S₅, i₅⟩ := q5
  cases nil_of S₅
  have hlI : l ≠ I := fun z => let ⟨_, _, ho, _⟩ := hla; Nat.lt_irrefl _ (Nat.lt_of_lt_of_le (z ▸ Heap.lt_size ho) hI)
  have hIL : I ≠ n := fun z => let ⟨_, hn, _⟩ := Fr.loc; Nat.lt_irrefl _ (Nat.lt_of_lt_of_le (z ▸ hn.lt) hI)
  refine codeAny_mono (cells_loop C N hA hst hsc hn hw hl1 hlL hlI hIL ws.size 0 s₅ (Nat.zero_add _) S₅ (Fr.step0 C l₅) i₅ (hla.keep C l₅ hl1 (fun m => nomatch m))) fun r s₆ ⟨hr, l₆, S₆, Fr₆, a₆⟩ => ?_
  subst hr
  refine wpAny_execs_cons (wpAny_Return_some (load_loc Fr₆ N.cells (v := .top l) (by kernel_rfl) fun y hy => ?_))
  exact ⟨congrArg Flow.ret hy, ⟨I, hI, l₅.wide0.trans l₆⟩, S₆, a₆⟩

theorem law_cells {n : Nat} (C : COk cx) (CF : CellsFn cx) (SN : Snd cx θ (run fnT fuelL) n) (h8 : 8 ≤ n) (hA : AOk A (n + 1)) {sc B : Nat} {ws : Array Value} (hsc : cx.h₀.IsList sc ws) (hn : ws.size ≤ 63) (hw : ∀ (j : Nat) (x : Value), ws[j]? = some x → SmallI B x) (hB : 816 ≤ B) (S : St cx θ [] AH.nil s) :
    Tri cx A (call (.ref 213) [.ref sc] []) s fun y s' => ∃ l, y = .ref l ∧ s.heap.objs.size ≤ l ∧ Lk cx [] [] s [] s' ∧ St cx θ [] AH.nil s' ∧ AtL s' l ((ws.size + 1) * B) := by
  obtain ⟨fd, b, O, hgen, hcs, htl, N, hlen, hrk, hlk⟩ := CF.ok
  refine enter C O hgen (hA.le (Nat.le_add_left 1 n)) S rfl fun h₀ tk hns hk hsz S₁ => _root_.PySem.wpAt_of_wpAny ?_
  have hA' : AOk (A.deeper (callEnv fd s.heap.objs.size 213)) n := AOk.deeper hA _
  have Fr₀ : Frm θ cx (callEnv fd s.heap.objs.size 213) fd.scope.names (frameC0 sc) [] { s with heap := h₀, toks := tk } := by
    refine ⟨O.kind, fun x i k hs => .inl (slot_lookup hs), hlen, O.glob, O.blt, fun m => (nomatch m), S.size, ⟨_, hns, fun x i u hs hu => ?_⟩, fun x i k j _ hj => nomatch hj⟩
    obtain ⟨rfl, rfl⟩ := Prod.mk.inj (List.mem_singleton.mp (ofL_get (all_cons (by decide : 0 < 1000) all_none) hu))
    obtain rfl := slot_inj hs N.script
    exact ⟨.ref sc, rfl, rfl⟩
  rw [show b = b.take 1 ++ b.drop 1 from (List.take_append_drop 1 b).symm]
  refine ob3_el (outC_ok sc) fun f F H hrun hout => ?_
  cases f with
  | next =>
    obtain ⟨g0, g1, e1⟩ := sm3 hout
    refine tri_append (Tri.mono (SN.exs hA' Fr₀ S₁ hcs hrun) fun fx s₂ ⟨ρ₂, l₂, S₂, hx, Fr₂⟩ => ?_)
    obtain rfl := (show fx = .next from hx)
    obtain ⟨l, o, hρl, ho, vs, m, rfl, hall⟩ := S₂.obj 0 _ e1
    have hlm : l ∈ ρ₂ := List.mem_of_getElem? hρl
    have hlnew : s.heap.objs.size ≤ l := by
      obtain ⟨tl, e, htl'⟩ := l₂.tl
      exact Nat.le_trans hsz (htl' l ((show ρ₂ = tl from e) ▸ hlm))
    have Fr₃ : Frm θ cx (callEnv fd s.heap.objs.size 213) fd.scope.names (frameC1 sc l) [] s₂ :=
      Fr₂.pick (l := [(0, .top sc), (1, .top l)]) (all_cons (by decide : 0 < 1000) (all_cons (by decide : 1 < 1000) all_none)) (fun m => nomatch m) (fun i v' => (show ∀ p ∈ _, Hand F θ ρ₂ [] p from all_cons (hand_flat g0 rfl) (all_cons ⟨_, g1, fun y h => h.top_of hρl⟩ all_none)) (i, v')) (fun x' i k j hx' hj => nomatch hj)
    -- what is new is not named
    have l₃ : Lk cx [] [] s [] s₂ := ⟨⟨[], rfl, fun _ m => nomatch m⟩, fun b o e _ ht => l₂.keep.heap b o (hk b o e) (fun q => Nat.lt_irrefl _ ((show b = s.heap.objs.size from List.mem_singleton.mp q) ▸ Heap.lt_size e)) ht, l₂.keep.os, Nat.le_trans hsz l₂.keep.grow⟩
    refine Tri.mono (law_cells2 C CF (hA'.le h8) N hrk hlk hsc hn hw S₂.nil Fr₃ ⟨vs, m, ho, (Nat.one_mul B).symm ▸ start_bd hB hall⟩ (S₂.old l hlm) (fun z => Fr₂.nin (show s.heap.objs.size ∈ ρ₂ from z ▸ hlm)) htl) fun fl s₆ ⟨hfl, ⟨I, hI, l₆⟩, S₆, a₆⟩ => ?_
    subst hfl
    exact ⟨l, rfl, hlnew, (l₃.wide0.trans l₆).less (all_cons (.inr (Nat.le_refl _)) (all_cons (.inr (Nat.le_trans l₃.keep.grow hI)) (all_cons (.inr hlnew) all_none))), S₆, a₆⟩
  | _ => exact no_el hout
end
end Mine
namespace Mine
open PySem PySem.W PyProof.Rows PySem.Calls

/-! the law's own def -/
noncomputable def firstB (b : List Stmt) : Bool := is1 b fun s => stAssign s fun ts w _ => (is1 ts (nmB "cells")) && isCl w fun f as _ => nmB "_law_cells" f && is1 as (nmB "script")
theorem firstB_el {b : List Stmt} {P : Prop} (h : firstB b = true) (g : ∀ p q r t u, b = [.Assign [.Name "cells" p] (.Call (.Name "_law_cells" q) [.Name "script" r] [] t) u] → P) : P :=
  is1_el h fun s e1 h => stAssign_el h fun ts w u e2 h => is1_el (and_t h).1 fun t e3 ht => nmB_el ht fun p e4 => isCl_el (and_t h).2 fun f as t e5 h => nmB_el (and_t h).1 fun q e6 => is1_el (and_t h).2 fun a e7 ha => nmB_el ha fun r e8 => g p q r t u (by rw [e1, e2, e3, e4, e5, e6, e7, e8])
structure Facts2 (K : Frag) : Prop where
  u1 : fnB K 213 false = true
  u2 : fnB K 253 true = true
  u3 : (fdOf K 213).scope.isGenerator = false
  u4 : (fdOf K 253).scope.isGenerator = false
  u5 : ∀ S (a : Value), peek K S (bindArgs (fdOf K 213) ⟨[a], []⟩) = some ((["script"] : List Str).zip [a])
  u6 : ∀ a : Value, bindArgs (fdOf K 253) ⟨[a], []⟩ = pure [(("script" : Str), a)]
  u7 : csBody fuelE fuelS (fdOf K 213).scope.names 40 ((bodyOf (fdOf K 213)).take 1) = some startS
  u8 : cellsTail ((bodyOf (fdOf K 213)).drop 1) = true
  u9 : slot "script" 0 (fdOf K 213).scope.names = some (0, .local)
  u10 : slot "cells" 0 (fdOf K 213).scope.names = some (1, .local)
  u11 : slot "k" 0 (fdOf K 213).scope.names = some (2, .local)
  u12 : Nat.blt ((fdOf K 213).scope.names.length + 1) 1024 = true
  u13 : isGlobal (fdOf K 213).scope.names "range" = true
  u14 : isGlobal (fdOf K 213).scope.names "len" = true
  l1 : csBody fuelE fuelS (fdOf K 253).scope.names 40 ((bodyOf (fdOf K 253)).drop 1) = some (partA ++ (partB ++ partC))
  l2 : firstB ((bodyOf (fdOf K 253)).take 1) = true
  l3 : slot "script" 0 (fdOf K 253).scope.names = some (0, .local)
  l4 : slot "cells" 0 (fdOf K 253).scope.names = some (1, .local)
  l5 : slot "three" 0 (fdOf K 253).scope.names = some (6, .cell)
  l6 : slot "drawn" 0 (fdOf K 253).scope.names = some (10, .cell)
  l7 : Nat.blt ((fdOf K 253).scope.names.length + 1) 1024 = true
  l8 : isGlobal (fdOf K 253).scope.names "_law_cells" = true
  l9 : ∀ n, cellsFrom n (fdOf K 253).scope.names [] = [(("drawn" : Str), n + 1), (("three" : Str), n)]
  l10 : nsIn K mainGlobals "law" = some (some (.ref 253))
  l11 : nsIn K mainGlobals "_law_cells" = some (some (.ref 213))
  l12 : keepIn K (.ref 213) = true
  l13 : (fdOf K 253).closure = []

/-- the numbers of a list, told -/
noncomputable def ival (o : Option Value) : Int := match o with
  | some (.int i _) => i
  | _ => 0
noncomputable def thOf (xs : Array Value) : Th :=
  ⟨fun j => ival xs[j]?, ((ival xs[10]?).fmod 11).toNat, (((ival xs[10]?).fdiv 11).fmod 4).toNat, ival xs[10]?, ((((ival xs[10]?).fdiv 11).fdiv 4).fmod 162).toNat⟩
theorem fmod_nat {a : Int} {n : Nat} (hn : 0 < n) : ((a.fmod n).toNat : Int) = a.fmod n ∧ (a.fmod n).toNat < n := by
  have h0 : 0 < (n : Int) := Int.ofNat_lt.mpr hn
  have e := Int.toNat_of_nonneg (Int.fmod_nonneg_of_pos a h0)
  exact ⟨e, Int.ofNat_lt.mp (e ▸ Int.fmod_lt_of_pos a h0)⟩
theorem thOf_ok {B : Nat} {xs : Array Value} (h : Bd B xs) (hbits : ∀ i : Int, i.natAbs ≤ B → Builtin.Int.intBits i ≤ vbits) : (thOf xs).Ok := by
  have small : ∀ j : Nat, Builtin.Int.intBits (ival xs[j]?) ≤ vbits := by
    intro j
    cases hx : xs[j]? with
    | none => exact hbits 0 (Nat.zero_le B)
    | some x =>
      obtain ⟨i, t, rfl, hi⟩ := h.2 j x hx
      exact hbits i hi
  exact ⟨(fmod_nat (n := 11) (by decide)).2, (fmod_nat (n := 4) (by decide)).2, (fmod_nat (n := 11) (by decide)).1.symm, (fmod_nat (n := 4) (by decide)).1.symm, (fmod_nat (n := 162) (by decide)).1.symm, small⟩
theorem thOf_r {xs : Array Value} : (thOf xs).r < 162 := (fmod_nat (n := 162) (by decide)).2
/-- numbers, told from a place on -/
noncomputable def From (f : Nat → Int) (k : Nat) (l : List Value) : Prop := ∀ (j : Nat) (x : Value), l[j]? = some x → ∃ t, x = .int (f (k + j)) t
theorem from_cons {θ : Th} {ρ : List Addr} {k n : Nat} {as : List AV} (g : ∀ l, l.length = n → From θ.v (k + 1) l → All2 (VRel θ ρ) as l) (l : List Value) (h : l.length = n + 1) (f : From θ.v k l) : All2 (VRel θ ρ) (symV k :: as) l := by
  cases l with
  | nil => exact nomatch h
  | cons x l => exact .cons (let ⟨t, e⟩ := f 0 x rfl; ⟨_, t, e, rfl⟩) (g l (Nat.succ.inj h) fun j x e => (Nat.add_right_comm k 1 j) ▸ f (j + 1) x e)
theorem from_last {θ : Th} {ρ : List Addr} (hc : θ.v 10 = θ.c) (l : List Value) (h : l.length = 1) (f : From θ.v 10 l) : All2 (VRel θ ρ) [.int (.c10 θ.r)] l := by
  cases l with
  | nil => exact nomatch h
  | cons x l => exact .cons (let ⟨t, e⟩ := f 0 x rfl; ⟨_, t, e, hc, rfl⟩) (List.length_eq_zero_iff.mp (Nat.succ.inj h) ▸ .nil)
theorem thOf_cells {B : Nat} {xs : Array Value} (h : Bd B xs) {ρ : List Addr} : All2 (VRel (thOf xs) ρ) (cellsA (thOf xs).r) xs.toList :=
  from_cons (from_cons (from_cons (from_cons (from_cons (from_cons (from_cons (from_cons (from_cons (from_cons (from_last rfl)))))))))) xs.toList h.1 fun j x e => by
    rw [Array.getElem?_toList] at e
    obtain ⟨i, t, rfl, _⟩ := h.2 j x e
    refine ⟨t, ?_⟩
    show Value.int i t = .int (ival xs[0 + j]?) t
    rw [Nat.zero_add, e]; rfl
noncomputable def th0 : Th := ⟨fun _ => 0, 0, 0, 0, 0⟩
theorem th0_ok : th0.Ok := ⟨by decide, by decide, by decide, by decide, by decide, fun _ => by show Builtin.Int.intBits 0 ≤ vbits; decide⟩
end Mine
namespace Mine
open PySem PySem.W PyProof.Rows PySem.Calls

section
variable {prog : Program} {w : World} {h₁ : Heap} {mg mb : Str → Option Value} {K : Frag} {θ : Th} {s s' : Shared} {A : Around}

theorem Base.cellsFn (B : Base prog w h₁ mg mb K) (G : Facts2 (dropT K)) : CellsFn (mkCx prog w h₁ mg mb K) :=
  ⟨⟨_, _, hand_of B.cok (fnB_out G.u1) (bindN G.u5) (and_i (by unfold isLoc; rw [G.u9]) rfl), G.u3, Css.of_body G.u7, G.u8, ⟨G.u9, G.u10, G.u11⟩, Nat.blt_eq.mp G.u12, isGlobal_out G.u13, isGlobal_out G.u14⟩,
    ⟨B.mgN (by decide +kernel), B.mbS (by decide) boot_range'⟩, ⟨B.mgN (by decide +kernel), B.mbS (by decide) boot_len'⟩⟩

/-- the law's frame, as it is entered -/
structure LawIn (cx : Cx) (ns : Names) (env : Env) (sc : Addr) (L : Addr) (s : Shared) : Prop where
  kind : env.scope.kind = .function
  glob : env.globals = mainGlobals
  blt : env.builtins = builtinsNs
  names : ∀ x k, ns.lookup x = some k → env.kindOf x = some k
  loc : env.locals = L
  old : cx.h₁.objs.size ≤ L
  cells : env.cells = [(("drawn" : Str), L + 1 + 1), (("three" : Str), L + 1)]
  ns : ∃ m, s.heap.Ns L m ∧ m "script" = some (.ref sc)
  c1 : s.heap.IsCell (L + 1) none
  c2 : s.heap.IsCell (L + 1 + 1) none
  st : St cx th0 [] AH.nil s

theorem cell_here {cx : Cx} {a : Addr} {s s' : Shared} (C : COk cx) {X : List Addr} (hc : s.heap.IsCell a none) (h1 : cx.h₁.objs.size ≤ a) (l : Lk cx X [] s [] s') (hX : a ∉ X) : Here cx θ s' a (.cell none) := by
  obtain ⟨o, ho, hd⟩ := hc
  exact ⟨h1, o, l.keep.heap _ _ ho (fun m => hX (List.append_nil X ▸ m)) (fun h => Nat.lt_irrefl _ (Nat.lt_of_lt_of_le (C.tabs _ h) h1)), none, hd, trivial⟩

theorem cond_el {α : Type} {c : Bool} {x y : Option α} {z : α} {P : Prop} (e : cond c x y = some z) (h : c = true → x = some z → P) (h' : c = false → y = some z → P) : P := by
  cases c with
  | true => exact h rfl e
  | false => exact h' rfl e
theorem law_frame0 {cx : Cx} {ns : Names} {env : Env} {sc L : Addr} (I : LawIn cx ns env sc L s) (hl : ns.length + 1 < 2 ^ 10) (h0 : slot "script" 0 ns = some (0, .local)) : Frm th0 cx env ns (frameC0 sc) [] s := by
  obtain ⟨m, hm, hsm⟩ := I.ns
  refine ⟨I.kind, fun x i k hs => .inl (I.names _ _ (slot_lookup hs)), hl, I.glob, I.blt, fun m => (nomatch m), I.loc ▸ I.old, ⟨m, I.loc ▸ hm, fun x i u hs hu => ?_⟩, fun x i k j _ hj => nomatch hj⟩
  obtain ⟨rfl, rfl⟩ := Prod.mk.inj (List.mem_singleton.mp (ofL_get (all_cons (by decide : 0 < 1000) all_none) hu))
  obtain rfl := slot_inj hs h0
  exact ⟨.ref sc, hsm, rfl⟩
theorem law_frameA {cx : Cx} {ns : Names} {env : Env} {sc l L : Nat} {xs : Array Value} {s₃ : Shared} (I : LawIn cx ns env sc L s) (h1 : slot "cells" 0 ns = some (1, .local)) (h6 : slot "three" 0 ns = some (6, .cell)) (h10 : slot "drawn" 0 ns = some (10, .cell)) (Fr : Frm th0 cx env ns ((frameC0 sc).store 1 (.top l)) [] s₃) (hlL : l ≠ L) :
    Frm (thOf xs) cx env ns frameA [l, L + 1, L + 1 + 1] s₃ := by
  obtain ⟨m₃, hn₃, hm₃⟩ := Fr.loc
  refine ⟨Fr.kind, Fr.names, Fr.few, Fr.glob, Fr.blt, fun m => all_cons (p := (· ≠ L)) hlL (all_cons (Nat.succ_ne_self L) (all_cons (Nat.ne_of_gt (Nat.lt_succ_of_lt (Nat.lt_succ_self L))) all_none)) _ m I.loc, Fr.old, ⟨m₃, hn₃, fun x i v hs hu => ?_⟩, fun x i k j hs hj => ?_⟩
  · obtain ⟨rfl, rfl⟩ := Prod.mk.inj (List.mem_singleton.mp (ofL_get (l := [(1, .ref 0)]) (all_cons (by decide : 1 < 1000) all_none) hu))
    obtain rfl := slot_inj hs h1
    obtain ⟨y, hy, hr⟩ := hm₃ "cells" 1 (.top l) hs (by rw [AF.get_store (by decide)]; rfl)
    obtain rfl := (show y = .ref l from hr)
    exact ⟨_, hy, l, rfl, rfl⟩
  · rw [I.cells]
    change cond (Nat.beq i 6) (some 1) (cond (Nat.beq i 10) (some 2) none) = some j at hj
    refine cond_el hj (fun hi hj => ?_) fun _ hj => cnd_el hj fun hi hj => ?_
    · obtain rfl := Option.some.inj hj
      obtain rfl := beq_t hi
      obtain rfl := slot_inj hs h6
      exact ⟨L + 1, rfl, rfl⟩
    · obtain rfl := Option.some.inj hj
      obtain rfl := beq_t hi
      obtain rfl := slot_inj hs h10
      exact ⟨L + 1 + 1, rfl, rfl⟩
theorem law_body (B : Base prog w h₁ mg mb K) (G : Facts2 (dropT K)) (hA : AOk A 649) {sc b L : Nat} {ws : Array Value} {env : Env} (I : LawIn (mkCx prog w h₁ mg mb K) (fdOf (dropT K) 253).scope.names env sc L s) (hsc : (mkCx prog w h₁ mg mb K).h₀.IsList sc ws) (hn : ws.size ≤ 63) (hw : ∀ (j : Nat) (x : Value), ws[j]? = some x → SmallI b x) (hb : 816 ≤ b)
    (hbits : ∀ i : Int, i.natAbs ≤ (ws.size + 1) * b → Builtin.Int.intBits i ≤ vbits) :
    Tri (mkCx prog w h₁ mg mb K) A (execs (bodyOf (fdOf (dropT K) 253)) env) s fun f s' => f = .ret (.bool true) ∧ OldK h₁ s'.heap ∧ s'.os = s.os ∧ AllBare s'.gens := by
  have C := B.cok
  have hsnd : ∀ {θ : Th}, θ.Ok → Snd (mkCx prog w h₁ mg mb K) θ (run fnT fuelL) 648 := fun O => fnT_eq ▸ B.snd O 80
  have Fr₀ := law_frame0 I (Nat.blt_eq.mp G.l7) G.l3
  rw [show bodyOf (fdOf (dropT K) 253) = (bodyOf (fdOf (dropT K) 253)).take 1 ++ (bodyOf (fdOf (dropT K) 253)).drop 1 from (List.take_append_drop 1 _).symm]
  refine tri_append (firstB_el G.l2 fun p q r t u hfirst => ?_)
  rw [hfirst]
  refine wpAny_execs_cons (wpAny_Assign_Name (wpAny_Call_ofName (env_global C I.kind (I.names _ _ (isGlobal_out G.l8)) I.glob I.st.base (by decide) (B.mgS G.l11) (callWith_at rfl (fun _ h' X => keeps_K G.l12 h' X) ?_))))
  refine wpAny_items_cons (load_loc Fr₀ G.l3 (v := .top sc) (by kernel_rfl) fun y hy => ?_) rfl
  obtain rfl := (show y = .ref sc from hy)
  refine wpAny_items_nil ⟨C.K.keeps I.st.base, ?_⟩
  refine Tri.mono (law_cells C (B.cellsFn G) (hsnd th0_ok) (by decide) hA hsc hn hw hb I.st) fun y s₂ ⟨l, hy, hl, l₂, S₂, a₂⟩ => ?_
  subst hy
  refine store_ok S₂ (Fr₀.step0 C l₂) G.l4 (v := .top l) rfl fun s₃ l₃ S₃ Fr₃ => wpAny_execs_nil ?_
  -- what stands now
  have hL1 : L < L + 1 := Nat.lt_succ_self L
  have hL2 : L + 1 < L + 1 + 1 := Nat.lt_succ_self _
  have hLl : L + 1 + 1 < l := Nat.lt_of_lt_of_le I.c2.lt hl
  have hll : h₁.objs.size ≤ l := Nat.le_trans I.st.size hl
  have hlL : l ≠ L := Nat.ne_of_gt (Nat.lt_trans (Nat.lt_trans hL1 hL2) hLl)
  have l₃' : Lk (mkCx prog w h₁ mg mb K) [L] [] s [] s₃ := (l₂.wide0 (Y := [L])).trans (I.loc ▸ l₃)
  obtain ⟨xs, m, ho, hB⟩ := a₂.keep C l₃ hll (nin1 (I.loc ▸ hlL))
  have hold : h₁.objs.size ≤ L + 1 := Nat.le_succ_of_le I.old
  have H1 : Here (mkCx prog w h₁ mg mb K) (thOf xs) s₃ l (.list (cellsA (thOf xs).r)) := ⟨hll, _, ho, _, _, rfl, thOf_cells hB⟩
  have S₄ : St (mkCx prog w h₁ mg mb K) (thOf xs) [l, L + 1, L + 1 + 1] (heapA (thOf xs).r) s₃ := S₃.nil.picks (.cons H1 (.cons (cell_here C I.c1 hold l₃' (nin1 (Nat.ne_of_gt hL1))) (.cons (cell_here C I.c2 (Nat.le_succ_of_le hold) l₃' (nin1 (Nat.ne_of_gt (Nat.lt_trans hL1 hL2)))) .nil)))
    (List.nodup_cons.mpr ⟨fun m => all_cons (p := (l ≠ ·)) (Nat.ne_of_gt (Nat.lt_trans hL2 hLl)) (all_cons (Nat.ne_of_gt hLl) all_none) _ m rfl, List.nodup_cons.mpr ⟨nin1 (Nat.ne_of_lt hL2), List.nodup_cons.mpr ⟨(fun m => nomatch m), List.nodup_nil⟩⟩⟩) (by decide : 3 < 1000)
  exact Tri.mono (law_rest C (hsnd (thOf_ok hB hbits)) (hA.le (by decide)) (cases_ok thOf_r) (law_frameA I G.l4 G.l5 G.l6 Fr₃ hlL) S₄ (Css.of_body G.l1)) fun f s₅ ⟨h1, h2, h3, h4⟩ => ⟨h1, h2, h3.trans l₃'.keep.os, h4⟩

theorem law_entry (B : Base prog w h₁ mg mb K) (G : Facts2 (dropT K)) (hA : AOk A 650) {sc b : Nat} {ws : Array Value} (S : St (mkCx prog w h₁ mg mb K) th0 [] AH.nil s) (hsc : (mkCx prog w h₁ mg mb K).h₀.IsList sc ws) (hn : ws.size ≤ 63) (hw : ∀ (j : Nat) (x : Value), ws[j]? = some x → SmallI b x) (hb : 816 ≤ b)
    (hbits : ∀ i : Int, i.natAbs ≤ (ws.size + 1) * b → Builtin.Int.intBits i ≤ vbits) :
    Tri (mkCx prog w h₁ mg mb K) A (call (.ref 253) [.ref sc] []) s fun y s' => y = .bool true ∧ OldK h₁ s'.heap ∧ s'.os = s.os ∧ AllBare s'.gens := by
  have C := B.cok
  have FN := fnB_out G.u2
  obtain ⟨o, ho, hod⟩ := FN.obj
  obtain ⟨loose, T⟩ := C.top
  have hscr := slot_lookup G.l3
  refine wpAny_call (codeAny_call_cells (binds := [(("script" : Str), .ref sc)]) hA.room (S.base _ _ (C.K _ _ ho)) hod (T.nolimit.keeps S.base) (codeRec_of (C.K.keeps S.base) FN.code) FN.body (G.u6 _) G.l13 (fun x hx => ?_) (fun s₁ x => ?_) FN.co G.u4 FN.kind)
  · rw [List.mem_singleton.mp hx]
    exact .inl hscr
  obtain ⟨hp, tk, e1⟩ := x.toInCall.same
  have hs1 : s.heap.objs.size ≤ s₁.heap.objs.size := Nat.le_of_lt x.toInCall.ns.lt
  have S₁ : St (mkCx prog w h₁ mg mb K) th0 [] AH.nil s₁ := S.frame x.toInCall.keep (by rw [e1]; exact S.bare) hs1
  have hcells : (callEnvC (fdOf (dropT K) 253) s.heap.objs.size 253).cells = [(("drawn" : Str), s.heap.objs.size + 1 + 1), (("three" : Str), s.heap.objs.size + 1)] := G.l9 _
  have hos : s₁.os = s.os := by rw [e1]
  have hbc : ∀ nm, bindC (callEnvC (fdOf (dropT K) 253) s.heap.objs.size 253).kindOf [(("script" : Str), .ref sc)] (fun _ => none) nm = none := fun nm => by
    unfold bindC
    rw [if_pos (show (callEnvC (fdOf (dropT K) 253) s.heap.objs.size 253).kindOf "script" = some .local from hscr)]
    rfl
  refine wpAny_mono (law_body B G (AOk.deeper hA _) (L := s.heap.objs.size) ⟨FN.kind, FN.glob, FN.blt, fun x k h => h, rfl, S.size, hcells, ⟨_, x.toInCall.ns, ?_⟩, ?_, ?_, S₁⟩ hsc hn hw hb hbits) (fun f s' ⟨h1, h2, h3, h4⟩ => ?_) fun _ _ e => e.elim
  · unfold bindL
    rw [if_pos (show (callEnvC (fdOf (dropT K) 253) s.heap.objs.size 253).kindOf "script" = some .local from hscr)]
    unfold bindL
    dsimp only
    rw [if_pos rfl]
  · have := x.cell "three" (s.heap.objs.size + 1) (by rw [hcells]; rfl)
    rwa [hbc] at this
  · have := x.cell "drawn" (s.heap.objs.size + 1 + 1) (by rw [hcells]; rfl)
    rwa [hbc] at this
  · subst h1
    exact ⟨rfl, h2, h3.trans hos, h4⟩
end
end Mine
namespace Mine
open PySem PySem.W PyProof.Rows PySem.Calls

theorem bits64 (n : Nat) {i : Int} {m : Nat} (hm : m ≤ 64) (h : i.natAbs ≤ m * 2 ^ n) : i.natAbs < 2 ^ (n + 16) := by
  rw [Nat.pow_add, Nat.mul_comm (2 ^ n)]
  exact Nat.lt_of_le_of_lt h (Nat.mul_lt_mul_of_pos_right (Nat.lt_of_le_of_lt hm (by decide)) (Nat.two_pow_pos n))
theorem pow816 : ∀ (n : Nat), 10 ≤ n → 816 ≤ 2 ^ n := fun n h => Nat.le_trans (by decide : 816 ≤ 2 ^ 10) (Nat.pow_le_pow_right (by decide) h)
theorem ints_at {vs : List Value} {is : List Int} (h : IntsAre vs is) : vs.length = is.length ∧ ∀ (j : Nat) (x : Value), vs[j]? = some x → ∃ i ∈ is, ∃ t, x = .int i t := by
  induction h with
  | nil => exact ⟨rfl, fun j x e => no_el e⟩
  | cons n t _ ih =>
    refine ⟨congrArg (· + 1) ih.1, fun j x e => ?_⟩
    cases j with
    | zero => exact ⟨n, .head _, t, (Option.some.inj e).symm⟩
    | succ j => obtain ⟨i, hi, u, hx⟩ := ih.2 j x e; exact ⟨i, .tail _ hi, u, hx⟩
theorem hide_other {h : Heap} {K : Frag} (X : K.In h) {a P : Addr} {o : Obj} (t : List.lookup P K = some noTable) (ho : h.get? a = some o) (hc : o.cls = .type "list") : a ≠ P := fun z => by
  have h : Value.type "list" = Value.none := hc.symm.trans (congrArg Obj.cls (Option.some.inj (ho.symm.trans (z ▸ X _ _ t))))
  cases h
theorem law_final {prog : Program} {w : World} {s₁ : Shared} {mg mb : Str → Option Value} {K : Frag} {p : Program} {loose : List Str} {sc : Addr} {vs : List Value} {is : List Int} {fv : Value} {Q : Value → Shared → Prop} {E : Value → Shared → Prop}
    (KX : K.In s₁.heap) (T : TopRead p loose mg mb s₁.heap) (F : Facts prog w.params (dropT K)) (G : Facts2 (dropT K)) (t1 : List.lookup 140 K = some noTable) (t2 : List.lookup 147 K = some noTable) (hg : s₁.gens = #[])
    (hL : s₁.heap.IsList sc vs.toArray) (hI : IntsAre vs is) (hlay : PyData.layable0 (.list (is.map .int)) = true) (hlen : is.length ≤ 63) (hmg : mg "law" = some fv)
    (hQ : ∀ s', OldK s₁.heap s'.heap → s'.os = s₁.os → AllBare s'.gens → Q (.bool true) s') : wpAny (model prog w) callerA (call fv [.ref sc]) Q E s₁ := by
  have B : Base prog w s₁.heap mg mb K := ⟨KX, ⟨(p, loose), T⟩, F, t1, t2⟩
  have C := B.cok
  have hf : fv = .ref 253 := by
    have := B.mgS G.l10
    rw [hmg] at this
    exact Option.some.inj this
  subst hf
  obtain ⟨hlv, hix⟩ := ints_at hI
  have hA : AOk callerA 650 := ⟨rfl, by decide, by decide⟩
  have hsize : vs.toArray.size ≤ 63 := by rw [List.size_toArray, hlv]; exact hlen
  have S : St (mkCx prog w s₁.heap mg mb K) th0 [] AH.nil s₁ := by
    refine ⟨rfl, List.nodup_nil, fun _ m => (nomatch m), fun _ m => (nomatch m), (by show 0 + 1 < 2 ^ 40; decide), fun _ _ e => (nomatch e), fun b o e => of_hideAll _ e, Nat.le_refl _, ⟨OldK.refl _, fun P m => ?_⟩, by rw [hg]; exact fun _ h => nomatch h⟩
    have tab : ∀ P, List.lookup P K = some noTable → P < s₁.heap.objs.size ∧ ∃ ps, s₁.heap.get? P = some { cls := .none, data := .fields ps } ∧ TriplesOk ps.toList := fun P h => ⟨Heap.lt_size (KX _ _ h), _, KX _ _ h, trivial⟩
    exact (show ∀ P ∈ tabsL, P < s₁.heap.objs.size ∧ ∃ ps, s₁.heap.get? P = some { cls := .none, data := .fields ps } ∧ TriplesOk ps.toList from all_cons (tab _ t1) (all_cons (tab _ t2) all_none)) P m
  have hsc : (mkCx prog w s₁.heap mg mb K).h₀.IsList sc vs.toArray := by
    obtain ⟨o, ho, hc, hd⟩ := hL
    exact ⟨o, hideAll_get _ ho fun m => all_cons (p := (sc ≠ ·)) (hide_other KX t1 ho hc) (all_cons (hide_other KX t2 ho hc) all_none) _ m rfl, hc, hd⟩
  refine wpAny_mono (law_entry B G hA (b := 2 ^ 1048576) S hsc hsize (fun j x e => ?_) (pow816 _ (by decide)) fun i hi => ?_) (fun y s' ⟨h1, h2, h3, h4⟩ => ?_) fun _ _ e => e.elim
  · obtain ⟨i, hi, t, rfl⟩ := hix j x (List.getElem?_toArray.symm.trans e)
    exact ⟨i, t, rfl, Nat.le_of_lt (intBits_le_iff.mp (intBits_le_of_item hi hlay))⟩
  · exact intBits_le_iff.mpr (bits64 1048576 (Nat.succ_le_succ hsize) hi)
  · subst h1
    exact hQ s' h2 h3 h4
end Mine
namespace Mine
open PySem PySem.W PyProof.Rows PySem.Calls
theorem law_good {cl : Str → Option Addr} {mean : ExcName → Option Value} {is : List Int} {s₁ s' : Shared} (h1 : OldK s₁.heap s'.heap) (h2 : s'.os = s₁.os) (h3 : AllBare s'.gens) :
    GoodWG (OpenLaw.row PySem.Challenge.rw_yh0026_01).claim cl mean [ofPy (PyData.list (is.map PyData.int))] s₁ (.ok (.ret (.bool true))) s' :=
  ⟨.inl ⟨.bool true, .bool true, [], rfl, fun _ => rfl, .bool true, by kernel_rfl, fun _ => ⟨List.nodup_nil, fun _ h => nomatch h⟩⟩, h1, h2, h3⟩
end Mine
namespace Mine
open PySem PySem.W PyProof.Rows PySem.Calls
open PySem.PyData (keyHash)

/-! the top's states: what a test head printed, the defs' texts taken out of the program -/
noncomputable abbrev prg : Program := (OpenRow.toRowW (OpenLaw.row PySem.Challenge.rw_yh0026_01)).1
noncomputable def kv (P : Params) (x : Str) (t : Tok) (v : Value) : DictEntry := { hash := keyHash P x, key := .str x t, val := v }
noncomputable def inClass (s : Stmt) : List Stmt := match s with
  | .ClassDef _ _ _ b _ _ _ _ _ _ _ => b
  | _ => []
noncomputable def stmtAt (k : Nat ⊕ (Nat × Nat)) : Stmt := match k with
  | .inl i => prg.main.body.getD i (.Pass default)
  | .inr (i, j) => (inClass (prg.main.body.getD i (.Pass default))).getD j (.Pass default)
noncomputable def fobj (k : Nat ⊕ (Nat × Nat)) (q : Str) (cls : Value) (g : Addr) (clo : List (Str × Addr)) (df md cd ct : Value) : Obj := match stmtAt k with
  | .FunctionDef nm ar b _ _ _ sc _ _ _ => { cls := cls, data := .func { name := nm, qualname := q, params := ar, body := .stmts b, scope := sc, globals := g, closure := clo, defaults := df, kwdefaults := .none, pyModule := md, code := cd, closureTuple := ct } }
  | _ => { cls := cls, data := .plain }
noncomputable def o_43 : Params → Obj := fun _ => { cls := Value.type "tuple", data := Data.seq #[] }
noncomputable def o_44 : Params → Obj := fun _ => { cls := Value.none, data := Data.fields #[] }
noncomputable def o_45 : Params → Obj := fun _ => { cls := Value.type "code", data := Data.fields #[Value.str ("<module>") 182, Value.str ("<module>") 183, Value.str ("/claim/cut.py") 184, Value.int 1 0, Value.int 0 0, Value.int 0 0, Value.int 0 0, Value.int 0 0, Value.ref 11, Value.bool false, Value.int 181 0, Value.ref 12, Value.none, Value.none, Value.none, Value.none, Value.int 185 0, Value.int 1 0, Value.str ("/claim/cut.py") 186] }
noncomputable def o_46 : Params → Obj := fun _ => { cls := Value.type "frame", slots := #[some (Value.ref 13), some (Value.ref 3), some (Value.ref 3), none, some (Value.str ("__main__") 164), none, some (Value.ref 0)] }
noncomputable def o_239 : Params → Obj := fun P => { cls := Value.type "dict", data := Data.dict #[kv P "__name__" 165 (Value.str ("cpy313.token") 422), kv P "__doc__" 166 (Value.none), kv P "__package__" 167 (Value.none), kv P "__loader__" 168 (Value.builtin "__main__.__loader__#opaque"), kv P "__spec__" 169 (Value.none), kv P "__annotations__" 170 (Value.ref 6), kv P "__builtins__" 171 (Value.ref 4), kv P "__file__" 173 (Value.str ("/claim/cut.py") 172), kv P "__cached__" 174 (Value.none), kv P "_wall" 193 (Value.ref 21), kv P "NL" 197 (Value.str ("\n") 196), kv P "EMPTYSTRING" 199 (Value.str ("") 198), kv P "_ValueFormatter" 307 (Value.ref 94), kv P "_Accumulator" 403 (Value.ref 178), kv P "iadd" 413 (Value.ref 189), kv P "imul" 421 (Value.ref 196), kv P "LPAR" 425 (Value.int 7 424), kv P "RPAR" 427 (Value.int 8 426), kv P "LSQB" 429 (Value.int 9 428), kv P "RSQB" 431 (Value.int 10 430), kv P "COLON" 433 (Value.int 11 432), kv P "COMMA" 435 (Value.int 12 434), kv P "SEMI" 437 (Value.int 13 436), kv P "PLUS" 439 (Value.int 14 438), kv P "MINUS" 441 (Value.int 15 440), kv P "STAR" 443 (Value.int 16 442), kv P "SLASH" 445 (Value.int 17 444), kv P "VBAR" 447 (Value.int 18 446), kv P "AMPER" 449 (Value.int 19 448), kv P "LESS" 451 (Value.int 20 450), kv P "GREATER" 453 (Value.int 21 452), kv P "EQUAL" 455 (Value.int 22 454), kv P "DOT" 457 (Value.int 23 456), kv P "PERCENT" 459 (Value.int 24 458), kv P "LBRACE" 461 (Value.int 25 460), kv P "RBRACE" 463 (Value.int 26 462), kv P "EQEQUAL" 465 (Value.int 27 464), kv P "NOTEQUAL" 467 (Value.int 28 466), kv P "LESSEQUAL" 469 (Value.int 29 468), kv P "GREATEREQUAL" 471 (Value.int 30 470), kv P "TILDE" 473 (Value.int 31 472), kv P "CIRCUMFLEX" 475 (Value.int 32 474), kv P "LEFTSHIFT" 477 (Value.int 33 476), kv P "RIGHTSHIFT" 479 (Value.int 34 478), kv P "DOUBLESTAR" 481 (Value.int 35 480), kv P "PLUSEQUAL" 483 (Value.int 36 482), kv P "MINEQUAL" 485 (Value.int 37 484), kv P "STAREQUAL" 487 (Value.int 38 486), kv P "SLASHEQUAL" 489 (Value.int 39 488), kv P "PERCENTEQUAL" 491 (Value.int 40 490), kv P "AMPEREQUAL" 493 (Value.int 41 492), kv P "VBAREQUAL" 495 (Value.int 42 494), kv P "CIRCUMFLEXEQUAL" 497 (Value.int 43 496), kv P "LEFTSHIFTEQUAL" 499 (Value.int 44 498), kv P "RIGHTSHIFTEQUAL" 501 (Value.int 45 500), kv P "DOUBLESTAREQUAL" 503 (Value.int 46 502), kv P "DOUBLESLASH" 505 (Value.int 47 504), kv P "DOUBLESLASHEQUAL" 507 (Value.int 48 506), kv P "AT" 509 (Value.int 49 508), kv P "ATEQUAL" 511 (Value.int 50 510), kv P "RARROW" 513 (Value.int 51 512), kv P "ELLIPSIS" 515 (Value.int 52 514), kv P "COLONEQUAL" 517 (Value.int 53 516), kv P "EXCLAMATION" 519 (Value.int 54 518), kv P "NT_OFFSET" 521 (Value.int 256 520)] 65 }
noncomputable def o_224 : Params → Obj := fun _ => { cls := Value.none, data := Data.fields #[Value.int 1 0, Value.int 0 0, Value.ref 20, Value.int 7 0, Value.int 0 0, Value.ref 27, Value.int 75 0, Value.int 0 0, Value.ref 105, Value.int 112 0, Value.int 0 0, Value.ref 188, Value.int 115 0, Value.int 0 0, Value.ref 195] }
noncomputable def o_51 : Params → Obj := fun _ => { cls := Value.type "tuple", data := Data.seq #[] }
noncomputable def o_52 : Params → Obj := fun _ => { cls := Value.none, data := Data.fields #[] }
noncomputable def o_53 : Params → Obj := fun _ => { cls := Value.type "tuple", data := Data.seq #[Value.str ("k") 190] }
noncomputable def o_54 : Params → Obj := fun _ => { cls := Value.type "tuple", data := Data.seq #[] }
noncomputable def o_55 : Params → Obj := fun _ => fobj (.inl 0) "_wall" (Value.none) 0 [] (Value.none) (Value.none) (Value.none) (Value.none)
noncomputable def o_56 : Params → Obj := fun _ => { cls := Value.type "code", data := Data.fields #[Value.str ("_wall") 187, Value.str ("_wall") 188, Value.str ("/claim/cut.py") 189, Value.int 1 0, Value.int 1 0, Value.int 0 0, Value.int 0 0, Value.int 3 0, Value.ref 15, Value.bool true, Value.int 181 0, Value.ref 16, Value.none, Value.ref 17, Value.ref 18, Value.ref 19, Value.int 191 0, Value.int 1 0, Value.str ("/claim/cut.py") 192] }
noncomputable def o_57 : Params → Obj := fun _ => fobj (.inl 0) "_wall" (Value.type "function") 3 [] (Value.none) (Value.str ("__main__") 164) (Value.ref 20) (Value.none)
noncomputable def o_60 : Params → Obj := fun _ => { cls := Value.type "tuple", data := Data.seq #[] }
noncomputable def o_61 : Params → Obj := fun _ => { cls := Value.type "builtin_function_or_method", data := Data.fields #[Value.builtin "type.__prepare__", Value.type "type"] }
noncomputable def o_62 : Params → Obj := fun P => { cls := Value.type "dict", data := Data.dict #[kv P "__module__" 207 (Value.str ("cpy313.email.header") 194), kv P "__qualname__" 209 (Value.str ("_ValueFormatter") 208), kv P "__firstlineno__" 211 (Value.int 7 210), kv P "__init__" 222 (Value.ref 35), kv P "_str" 230 (Value.ref 42), kv P "__str__" 237 (Value.ref 49), kv P "newline" 245 (Value.ref 56), kv P "add_transition" 252 (Value.ref 63), kv P "feed" 262 (Value.ref 70), kv P "_maxlengths" 269 (Value.ref 77), kv P "_ascii_split" 279 (Value.ref 84), kv P "_append_chunk" 293 (Value.ref 91), kv P "__static_attributes__" 300 (Value.ref 92)] 13 }
noncomputable def o_63 : Params → Obj := fun _ => { cls := Value.type "tuple", data := Data.seq #[] }
noncomputable def o_64 : Params → Obj := fun _ => { cls := Value.none, data := Data.fields #[Value.int 9 0, Value.int 4 0, Value.ref 34, Value.int 17 0, Value.int 4 0, Value.ref 41, Value.int 21 0, Value.int 4 0, Value.ref 48, Value.int 24 0, Value.int 4 0, Value.ref 55, Value.int 35 0, Value.int 4 0, Value.ref 62, Value.int 38 0, Value.int 4 0, Value.ref 69, Value.int 41 0, Value.int 4 0, Value.ref 76, Value.int 46 0, Value.int 4 0, Value.ref 83, Value.int 49 0, Value.int 4 0, Value.ref 90] }
noncomputable def o_65 : Params → Obj := fun _ => { cls := Value.type "code", data := Data.fields #[Value.str ("_ValueFormatter") 202, Value.str ("_ValueFormatter") 203, Value.str ("/claim/cut.py") 204, Value.int 7 0, Value.int 0 0, Value.int 0 0, Value.int 0 0, Value.int 0 0, Value.ref 25, Value.bool false, Value.int 181 0, Value.ref 26, Value.none, Value.none, Value.none, Value.none, Value.int 205 0, Value.int 7 0, Value.str ("/claim/cut.py") 206] }
noncomputable def o_66 : Params → Obj := fun _ => { cls := Value.type "frame", slots := #[some (Value.ref 27), some (Value.ref 3), some (Value.ref 24), none, some (Value.str ("cpy313.email.header") 194), none, some (Value.ref 0)] }
noncomputable def o_67 : Params → Obj := fun _ => { cls := Value.type "tuple", data := Data.seq #[] }
noncomputable def o_68 : Params → Obj := fun _ => { cls := Value.none, data := Data.fields #[] }
noncomputable def o_69 : Params → Obj := fun _ => { cls := Value.type "tuple", data := Data.seq #[Value.str ("self") 215, Value.str ("headerlen") 216, Value.str ("maxlen") 217, Value.str ("continuation_ws") 218, Value.str ("splitchars") 219] }
noncomputable def o_70 : Params → Obj := fun _ => { cls := Value.type "tuple", data := Data.seq #[] }
noncomputable def o_71 : Params → Obj := fun _ => fobj (.inr (4, 0)) "_ValueFormatter.__init__" (Value.none) 0 [] (Value.none) (Value.none) (Value.none) (Value.none)
noncomputable def o_72 : Params → Obj := fun _ => { cls := Value.type "code", data := Data.fields #[Value.str ("__init__") 212, Value.str ("_ValueFormatter.__init__") 213, Value.str ("/claim/cut.py") 214, Value.int 9 0, Value.int 5 0, Value.int 0 0, Value.int 0 0, Value.int 3 0, Value.ref 29, Value.bool true, Value.int 181 0, Value.ref 30, Value.none, Value.ref 31, Value.ref 32, Value.ref 33, Value.int 220 0, Value.int 9 0, Value.str ("/claim/cut.py") 221] }
noncomputable def o_73 : Params → Obj := fun _ => fobj (.inr (4, 0)) "_ValueFormatter.__init__" (Value.type "function") 3 [] (Value.none) (Value.str ("cpy313.email.header") 194) (Value.ref 34) (Value.none)
noncomputable def o_74 : Params → Obj := fun _ => { cls := Value.type "tuple", data := Data.seq #[] }
noncomputable def o_75 : Params → Obj := fun _ => { cls := Value.none, data := Data.fields #[] }
noncomputable def o_76 : Params → Obj := fun _ => { cls := Value.type "tuple", data := Data.seq #[Value.str ("self") 226, Value.str ("linesep") 227] }
noncomputable def o_77 : Params → Obj := fun _ => { cls := Value.type "tuple", data := Data.seq #[] }
noncomputable def o_78 : Params → Obj := fun _ => fobj (.inr (4, 1)) "_ValueFormatter._str" (Value.none) 0 [] (Value.none) (Value.none) (Value.none) (Value.none)
noncomputable def o_79 : Params → Obj := fun _ => { cls := Value.type "code", data := Data.fields #[Value.str ("_str") 223, Value.str ("_ValueFormatter._str") 224, Value.str ("/claim/cut.py") 225, Value.int 17 0, Value.int 2 0, Value.int 0 0, Value.int 0 0, Value.int 3 0, Value.ref 36, Value.bool true, Value.int 181 0, Value.ref 37, Value.none, Value.ref 38, Value.ref 39, Value.ref 40, Value.int 228 0, Value.int 17 0, Value.str ("/claim/cut.py") 229] }
noncomputable def o_80 : Params → Obj := fun _ => fobj (.inr (4, 1)) "_ValueFormatter._str" (Value.type "function") 3 [] (Value.none) (Value.str ("cpy313.email.header") 194) (Value.ref 41) (Value.none)
noncomputable def o_81 : Params → Obj := fun _ => { cls := Value.type "tuple", data := Data.seq #[] }
noncomputable def o_82 : Params → Obj := fun _ => { cls := Value.none, data := Data.fields #[] }
noncomputable def o_83 : Params → Obj := fun _ => { cls := Value.type "tuple", data := Data.seq #[Value.str ("self") 234] }
noncomputable def o_84 : Params → Obj := fun _ => { cls := Value.type "tuple", data := Data.seq #[] }
noncomputable def o_85 : Params → Obj := fun _ => fobj (.inr (4, 2)) "_ValueFormatter.__str__" (Value.none) 0 [] (Value.none) (Value.none) (Value.none) (Value.none)
noncomputable def o_86 : Params → Obj := fun _ => { cls := Value.type "code", data := Data.fields #[Value.str ("__str__") 231, Value.str ("_ValueFormatter.__str__") 232, Value.str ("/claim/cut.py") 233, Value.int 21 0, Value.int 1 0, Value.int 0 0, Value.int 0 0, Value.int 3 0, Value.ref 43, Value.bool true, Value.int 181 0, Value.ref 44, Value.none, Value.ref 45, Value.ref 46, Value.ref 47, Value.int 235 0, Value.int 21 0, Value.str ("/claim/cut.py") 236] }
noncomputable def o_87 : Params → Obj := fun _ => fobj (.inr (4, 2)) "_ValueFormatter.__str__" (Value.type "function") 3 [] (Value.none) (Value.str ("cpy313.email.header") 194) (Value.ref 48) (Value.none)
noncomputable def o_88 : Params → Obj := fun _ => { cls := Value.type "tuple", data := Data.seq #[] }
noncomputable def o_89 : Params → Obj := fun _ => { cls := Value.none, data := Data.fields #[] }
noncomputable def o_90 : Params → Obj := fun _ => { cls := Value.type "tuple", data := Data.seq #[Value.str ("self") 241, Value.str ("end_of_line") 242] }
noncomputable def o_91 : Params → Obj := fun _ => { cls := Value.type "tuple", data := Data.seq #[] }
noncomputable def o_92 : Params → Obj := fun _ => fobj (.inr (4, 3)) "_ValueFormatter.newline" (Value.none) 0 [] (Value.none) (Value.none) (Value.none) (Value.none)
noncomputable def o_93 : Params → Obj := fun _ => { cls := Value.type "code", data := Data.fields #[Value.str ("newline") 238, Value.str ("_ValueFormatter.newline") 239, Value.str ("/claim/cut.py") 240, Value.int 24 0, Value.int 1 0, Value.int 0 0, Value.int 0 0, Value.int 3 0, Value.ref 50, Value.bool true, Value.int 181 0, Value.ref 51, Value.none, Value.ref 52, Value.ref 53, Value.ref 54, Value.int 243 0, Value.int 24 0, Value.str ("/claim/cut.py") 244] }
noncomputable def o_94 : Params → Obj := fun _ => fobj (.inr (4, 3)) "_ValueFormatter.newline" (Value.type "function") 3 [] (Value.none) (Value.str ("cpy313.email.header") 194) (Value.ref 55) (Value.none)
noncomputable def o_95 : Params → Obj := fun _ => { cls := Value.type "tuple", data := Data.seq #[] }
noncomputable def o_96 : Params → Obj := fun _ => { cls := Value.none, data := Data.fields #[] }
noncomputable def o_97 : Params → Obj := fun _ => { cls := Value.type "tuple", data := Data.seq #[Value.str ("self") 249] }
noncomputable def o_98 : Params → Obj := fun _ => { cls := Value.type "tuple", data := Data.seq #[] }
noncomputable def o_99 : Params → Obj := fun _ => fobj (.inr (4, 4)) "_ValueFormatter.add_transition" (Value.none) 0 [] (Value.none) (Value.none) (Value.none) (Value.none)
noncomputable def o_100 : Params → Obj := fun _ => { cls := Value.type "code", data := Data.fields #[Value.str ("add_transition") 246, Value.str ("_ValueFormatter.add_transition") 247, Value.str ("/claim/cut.py") 248, Value.int 35 0, Value.int 1 0, Value.int 0 0, Value.int 0 0, Value.int 3 0, Value.ref 57, Value.bool true, Value.int 181 0, Value.ref 58, Value.none, Value.ref 59, Value.ref 60, Value.ref 61, Value.int 250 0, Value.int 35 0, Value.str ("/claim/cut.py") 251] }
noncomputable def o_101 : Params → Obj := fun _ => fobj (.inr (4, 4)) "_ValueFormatter.add_transition" (Value.type "function") 3 [] (Value.none) (Value.str ("cpy313.email.header") 194) (Value.ref 62) (Value.none)
noncomputable def o_102 : Params → Obj := fun _ => { cls := Value.type "tuple", data := Data.seq #[] }
noncomputable def o_103 : Params → Obj := fun _ => { cls := Value.none, data := Data.fields #[] }
noncomputable def o_104 : Params → Obj := fun _ => { cls := Value.type "tuple", data := Data.seq #[Value.str ("self") 256, Value.str ("fws") 257, Value.str ("string") 258, Value.str ("charset") 259] }
noncomputable def o_105 : Params → Obj := fun _ => { cls := Value.type "tuple", data := Data.seq #[] }
noncomputable def o_106 : Params → Obj := fun _ => fobj (.inr (4, 5)) "_ValueFormatter.feed" (Value.none) 0 [] (Value.none) (Value.none) (Value.none) (Value.none)
noncomputable def o_107 : Params → Obj := fun _ => { cls := Value.type "code", data := Data.fields #[Value.str ("feed") 253, Value.str ("_ValueFormatter.feed") 254, Value.str ("/claim/cut.py") 255, Value.int 38 0, Value.int 4 0, Value.int 0 0, Value.int 0 0, Value.int 3 0, Value.ref 64, Value.bool true, Value.int 181 0, Value.ref 65, Value.none, Value.ref 66, Value.ref 67, Value.ref 68, Value.int 260 0, Value.int 38 0, Value.str ("/claim/cut.py") 261] }
noncomputable def o_108 : Params → Obj := fun _ => fobj (.inr (4, 5)) "_ValueFormatter.feed" (Value.type "function") 3 [] (Value.none) (Value.str ("cpy313.email.header") 194) (Value.ref 69) (Value.none)
noncomputable def o_109 : Params → Obj := fun _ => { cls := Value.type "tuple", data := Data.seq #[] }
noncomputable def o_110 : Params → Obj := fun _ => { cls := Value.none, data := Data.fields #[] }
noncomputable def o_111 : Params → Obj := fun _ => { cls := Value.type "tuple", data := Data.seq #[Value.str ("self") 266] }
noncomputable def o_112 : Params → Obj := fun _ => { cls := Value.type "tuple", data := Data.seq #[] }
noncomputable def o_113 : Params → Obj := fun _ => fobj (.inr (4, 6)) "_ValueFormatter._maxlengths" (Value.none) 0 [] (Value.none) (Value.none) (Value.none) (Value.none)
noncomputable def o_114 : Params → Obj := fun _ => { cls := Value.type "code", data := Data.fields #[Value.str ("_maxlengths") 263, Value.str ("_ValueFormatter._maxlengths") 264, Value.str ("/claim/cut.py") 265, Value.int 41 0, Value.int 1 0, Value.int 0 0, Value.int 0 0, Value.int 35 0, Value.ref 71, Value.bool true, Value.int 181 0, Value.ref 72, Value.none, Value.ref 73, Value.ref 74, Value.ref 75, Value.int 267 0, Value.int 41 0, Value.str ("/claim/cut.py") 268] }
noncomputable def o_115 : Params → Obj := fun _ => fobj (.inr (4, 6)) "_ValueFormatter._maxlengths" (Value.type "function") 3 [] (Value.none) (Value.str ("cpy313.email.header") 194) (Value.ref 76) (Value.none)
noncomputable def o_116 : Params → Obj := fun _ => { cls := Value.type "tuple", data := Data.seq #[] }
noncomputable def o_117 : Params → Obj := fun _ => { cls := Value.none, data := Data.fields #[] }
noncomputable def o_118 : Params → Obj := fun _ => { cls := Value.type "tuple", data := Data.seq #[Value.str ("self") 273, Value.str ("fws") 274, Value.str ("string") 275, Value.str ("splitchars") 276] }
noncomputable def o_119 : Params → Obj := fun _ => { cls := Value.type "tuple", data := Data.seq #[] }
noncomputable def o_120 : Params → Obj := fun _ => fobj (.inr (4, 7)) "_ValueFormatter._ascii_split" (Value.none) 0 [] (Value.none) (Value.none) (Value.none) (Value.none)
noncomputable def o_121 : Params → Obj := fun _ => { cls := Value.type "code", data := Data.fields #[Value.str ("_ascii_split") 270, Value.str ("_ValueFormatter._ascii_split") 271, Value.str ("/claim/cut.py") 272, Value.int 46 0, Value.int 4 0, Value.int 0 0, Value.int 0 0, Value.int 3 0, Value.ref 78, Value.bool true, Value.int 181 0, Value.ref 79, Value.none, Value.ref 80, Value.ref 81, Value.ref 82, Value.int 277 0, Value.int 46 0, Value.str ("/claim/cut.py") 278] }
noncomputable def o_122 : Params → Obj := fun _ => fobj (.inr (4, 7)) "_ValueFormatter._ascii_split" (Value.type "function") 3 [] (Value.none) (Value.str ("cpy313.email.header") 194) (Value.ref 83) (Value.none)
noncomputable def o_123 : Params → Obj := fun _ => { cls := Value.type "tuple", data := Data.seq #[] }
noncomputable def o_124 : Params → Obj := fun _ => { cls := Value.none, data := Data.fields #[] }
noncomputable def o_125 : Params → Obj := fun _ => { cls := Value.type "tuple", data := Data.seq #[Value.str ("self") 283, Value.str ("fws") 284, Value.str ("string") 285, Value.str ("ch") 286, Value.str ("i") 287, Value.str ("prevpart") 288, Value.str ("part") 289, Value.str ("remainder") 290] }
noncomputable def o_126 : Params → Obj := fun _ => { cls := Value.type "tuple", data := Data.seq #[] }
noncomputable def o_127 : Params → Obj := fun _ => fobj (.inr (4, 8)) "_ValueFormatter._append_chunk" (Value.none) 0 [] (Value.none) (Value.none) (Value.none) (Value.none)
noncomputable def o_128 : Params → Obj := fun _ => { cls := Value.type "code", data := Data.fields #[Value.str ("_append_chunk") 280, Value.str ("_ValueFormatter._append_chunk") 281, Value.str ("/claim/cut.py") 282, Value.int 49 0, Value.int 3 0, Value.int 0 0, Value.int 0 0, Value.int 3 0, Value.ref 85, Value.bool true, Value.int 181 0, Value.ref 86, Value.none, Value.ref 87, Value.ref 88, Value.ref 89, Value.int 291 0, Value.int 49 0, Value.str ("/claim/cut.py") 292] }
noncomputable def o_129 : Params → Obj := fun _ => fobj (.inr (4, 8)) "_ValueFormatter._append_chunk" (Value.type "function") 3 [] (Value.none) (Value.str ("cpy313.email.header") 194) (Value.ref 90) (Value.none)
noncomputable def o_130 : Params → Obj := fun _ => { cls := Value.type "tuple", data := Data.seq #[Value.str ("_continuation_ws") 294, Value.str ("_continuation_ws_len") 295, Value.str ("_current_line") 296, Value.str ("_lines") 297, Value.str ("_maxlen") 298, Value.str ("_splitchars") 299] }
noncomputable def o_131 : Params → Obj := fun P => { cls := Value.type "dict", data := Data.dict #[kv P "__module__" 207 (Value.str ("cpy313.email.header") 194), kv P "__firstlineno__" 211 (Value.int 7 210), kv P "__init__" 222 (Value.ref 35), kv P "_str" 230 (Value.ref 42), kv P "__str__" 237 (Value.ref 49), kv P "newline" 245 (Value.ref 56), kv P "add_transition" 252 (Value.ref 63), kv P "feed" 262 (Value.ref 70), kv P "_maxlengths" 269 (Value.ref 77), kv P "_ascii_split" 279 (Value.ref 84), kv P "_append_chunk" 293 (Value.ref 91), kv P "__static_attributes__" 300 (Value.ref 92), kv P "__dict__" 302 (Value.ref 95), kv P "__weakref__" 304 (Value.ref 96), kv P "__doc__" 305 (Value.none)] 4 }
noncomputable def o_132 : Params → Obj := fun _ => { cls := Value.type "type", data := Data.cls { name := "_ValueFormatter", bases := [Value.type "object"], mro := [Value.ref 94, Value.type "object"], ns := 93, qualname := "_ValueFormatter" }, slots := #[none, none, some (Value.str ("_ValueFormatter") 200), some (Value.str ("_ValueFormatter") 208), some (Value.builtin "object.__new__"), some (Value.bool true)] }
noncomputable def o_133 : Params → Obj := fun _ => { cls := Value.type "getset_descriptor", data := Data.fields #[Value.str ("__dict__") 301, Value.ref 94, Value.builtin "function.__dict__", Value.builtin "function.__dict__#set"] }
noncomputable def o_134 : Params → Obj := fun _ => { cls := Value.type "getset_descriptor", data := Data.fields #[Value.str ("__weakref__") 303, Value.ref 94, Value.builtin "ExceptionGroup.__weakref__", Value.none] }
noncomputable def o_135 : Params → Obj := fun _ => { cls := Value.type "super", data := Data.fields #[Value.ref 94, Value.ref 94, Value.ref 94] }
noncomputable def o_136 : Params → Obj := fun _ => { cls := Value.type "builtin_function_or_method", data := Data.fields #[Value.builtin "object.__init_subclass__", Value.ref 94] }
noncomputable def o_139 : Params → Obj := fun _ => { cls := Value.type "tuple", data := Data.seq #[Value.type "list"] }
noncomputable def o_140 : Params → Obj := fun _ => { cls := Value.type "builtin_function_or_method", data := Data.fields #[Value.builtin "type.__prepare__", Value.type "type"] }

noncomputable def o_141 : Params → Obj := fun P => { cls := Value.type "dict", data := Data.dict #[kv P "__module__" 315 (Value.str ("cpy313.email.header") 194), kv P "__qualname__" 317 (Value.str ("_Accumulator") 316), kv P "__firstlineno__" 319 (Value.int 75 318), kv P "__init__" 329 (Value.ref 115), kv P "push" 338 (Value.ref 122), kv P "pop_from" 348 (Value.ref 130), kv P "pop" 356 (Value.ref 138), kv P "__len__" 363 (Value.ref 145), kv P "__str__" 370 (Value.ref 152), kv P "reset" 378 (Value.ref 160), kv P "is_onlyws" 385 (Value.ref 167), kv P "part_count" 393 (Value.ref 175), kv P "__static_attributes__" 395 (Value.ref 176), kv P "__classcell__" 396 (Value.ref 102)] 14 }
noncomputable def o_142 : Params → Obj := fun _ => { cls := Value.type "cell", data := Data.cell (some (Value.ref 178)) }
noncomputable def o_143 : Params → Obj := fun _ => { cls := Value.type "tuple", data := Data.seq #[] }
noncomputable def o_144 : Params → Obj := fun _ => { cls := Value.none, data := Data.fields #[Value.int 77 0, Value.int 4 0, Value.ref 114, Value.int 81 0, Value.int 4 0, Value.ref 121, Value.int 84 0, Value.int 4 0, Value.ref 129, Value.int 89 0, Value.int 4 0, Value.ref 137, Value.int 94 0, Value.int 4 0, Value.ref 144, Value.int 97 0, Value.int 4 0, Value.ref 151, Value.int 100 0, Value.int 4 0, Value.ref 159, Value.int 106 0, Value.int 4 0, Value.ref 166, Value.int 109 0, Value.int 4 0, Value.ref 174] }
noncomputable def o_145 : Params → Obj := fun _ => { cls := Value.type "code", data := Data.fields #[Value.str ("_Accumulator") 310, Value.str ("_Accumulator") 311, Value.str ("/claim/cut.py") 312, Value.int 75 0, Value.int 0 0, Value.int 0 0, Value.int 0 0, Value.int 0 0, Value.ref 103, Value.bool false, Value.int 181 0, Value.ref 104, Value.none, Value.none, Value.none, Value.none, Value.int 313 0, Value.int 75 0, Value.str ("/claim/cut.py") 314] }
noncomputable def o_146 : Params → Obj := fun _ => { cls := Value.type "frame", slots := #[some (Value.ref 105), some (Value.ref 3), some (Value.ref 101), none, some (Value.str ("cpy313.email.header") 194), none, some (Value.ref 0)] }
noncomputable def o_147 : Params → Obj := fun _ => { cls := Value.type "tuple", data := Data.seq #[Value.int 0 320] }
noncomputable def o_148 : Params → Obj := fun _ => { cls := Value.type "tuple", data := Data.seq #[Value.ref 102] }
noncomputable def o_149 : Params → Obj := fun _ => { cls := Value.type "tuple", data := Data.seq #[Value.str ("__class__") 324] }
noncomputable def o_150 : Params → Obj := fun _ => { cls := Value.none, data := Data.fields #[] }
noncomputable def o_151 : Params → Obj := fun _ => { cls := Value.type "tuple", data := Data.seq #[Value.str ("self") 325, Value.str ("initial_size") 326] }
noncomputable def o_152 : Params → Obj := fun _ => { cls := Value.type "tuple", data := Data.seq #[] }
noncomputable def o_153 : Params → Obj := fun _ => fobj (.inr (5, 0)) "_Accumulator.__init__" (Value.none) 0 [] (Value.none) (Value.none) (Value.none) (Value.none)
noncomputable def o_154 : Params → Obj := fun _ => { cls := Value.type "code", data := Data.fields #[Value.str ("__init__") 321, Value.str ("_Accumulator.__init__") 322, Value.str ("/claim/cut.py") 323, Value.int 77 0, Value.int 2 0, Value.int 0 0, Value.int 0 0, Value.int 3 0, Value.ref 109, Value.bool true, Value.int 181 0, Value.ref 110, Value.none, Value.ref 111, Value.ref 112, Value.ref 113, Value.int 327 0, Value.int 77 0, Value.str ("/claim/cut.py") 328] }
noncomputable def o_155 : Params → Obj := fun _ => fobj (.inr (5, 0)) "_Accumulator.__init__" (Value.type "function") 3 [("__class__", 102)] (Value.ref 107) (Value.str ("cpy313.email.header") 194) (Value.ref 114) (Value.ref 108)
noncomputable def o_156 : Params → Obj := fun _ => { cls := Value.type "tuple", data := Data.seq #[] }
noncomputable def o_157 : Params → Obj := fun _ => { cls := Value.none, data := Data.fields #[] }
noncomputable def o_158 : Params → Obj := fun _ => { cls := Value.type "tuple", data := Data.seq #[Value.str ("self") 333, Value.str ("fws") 334, Value.str ("string") 335] }
noncomputable def o_159 : Params → Obj := fun _ => { cls := Value.type "tuple", data := Data.seq #[] }
noncomputable def o_160 : Params → Obj := fun _ => fobj (.inr (5, 1)) "_Accumulator.push" (Value.none) 0 [] (Value.none) (Value.none) (Value.none) (Value.none)
noncomputable def o_161 : Params → Obj := fun _ => { cls := Value.type "code", data := Data.fields #[Value.str ("push") 330, Value.str ("_Accumulator.push") 331, Value.str ("/claim/cut.py") 332, Value.int 81 0, Value.int 3 0, Value.int 0 0, Value.int 0 0, Value.int 3 0, Value.ref 116, Value.bool true, Value.int 181 0, Value.ref 117, Value.none, Value.ref 118, Value.ref 119, Value.ref 120, Value.int 336 0, Value.int 81 0, Value.str ("/claim/cut.py") 337] }
noncomputable def o_162 : Params → Obj := fun _ => fobj (.inr (5, 1)) "_Accumulator.push" (Value.type "function") 3 [] (Value.none) (Value.str ("cpy313.email.header") 194) (Value.ref 121) (Value.none)
noncomputable def o_163 : Params → Obj := fun _ => { cls := Value.type "tuple", data := Data.seq #[Value.int 0 339] }
noncomputable def o_164 : Params → Obj := fun _ => { cls := Value.type "tuple", data := Data.seq #[] }
noncomputable def o_165 : Params → Obj := fun _ => { cls := Value.none, data := Data.fields #[] }
noncomputable def o_166 : Params → Obj := fun _ => { cls := Value.type "tuple", data := Data.seq #[Value.str ("self") 343, Value.str ("i") 344, Value.str ("popped") 345] }
noncomputable def o_167 : Params → Obj := fun _ => { cls := Value.type "tuple", data := Data.seq #[] }
noncomputable def o_168 : Params → Obj := fun _ => fobj (.inr (5, 2)) "_Accumulator.pop_from" (Value.none) 0 [] (Value.none) (Value.none) (Value.none) (Value.none)
noncomputable def o_169 : Params → Obj := fun _ => { cls := Value.type "code", data := Data.fields #[Value.str ("pop_from") 340, Value.str ("_Accumulator.pop_from") 341, Value.str ("/claim/cut.py") 342, Value.int 84 0, Value.int 2 0, Value.int 0 0, Value.int 0 0, Value.int 3 0, Value.ref 124, Value.bool true, Value.int 181 0, Value.ref 125, Value.none, Value.ref 126, Value.ref 127, Value.ref 128, Value.int 346 0, Value.int 84 0, Value.str ("/claim/cut.py") 347] }
noncomputable def o_170 : Params → Obj := fun _ => fobj (.inr (5, 2)) "_Accumulator.pop_from" (Value.type "function") 3 [] (Value.ref 123) (Value.str ("cpy313.email.header") 194) (Value.ref 129) (Value.none)
noncomputable def o_171 : Params → Obj := fun _ => { cls := Value.type "tuple", data := Data.seq #[Value.ref 102] }
noncomputable def o_172 : Params → Obj := fun _ => { cls := Value.type "tuple", data := Data.seq #[Value.str ("__class__") 352] }
noncomputable def o_173 : Params → Obj := fun _ => { cls := Value.none, data := Data.fields #[] }
noncomputable def o_174 : Params → Obj := fun _ => { cls := Value.type "tuple", data := Data.seq #[Value.str ("self") 353] }
noncomputable def o_175 : Params → Obj := fun _ => { cls := Value.type "tuple", data := Data.seq #[] }
noncomputable def o_176 : Params → Obj := fun _ => fobj (.inr (5, 3)) "_Accumulator.pop" (Value.none) 0 [] (Value.none) (Value.none) (Value.none) (Value.none)
noncomputable def o_177 : Params → Obj := fun _ => { cls := Value.type "code", data := Data.fields #[Value.str ("pop") 349, Value.str ("_Accumulator.pop") 350, Value.str ("/claim/cut.py") 351, Value.int 89 0, Value.int 1 0, Value.int 0 0, Value.int 0 0, Value.int 3 0, Value.ref 132, Value.bool true, Value.int 181 0, Value.ref 133, Value.none, Value.ref 134, Value.ref 135, Value.ref 136, Value.int 354 0, Value.int 89 0, Value.str ("/claim/cut.py") 355] }
noncomputable def o_178 : Params → Obj := fun _ => fobj (.inr (5, 3)) "_Accumulator.pop" (Value.type "function") 3 [("__class__", 102)] (Value.none) (Value.str ("cpy313.email.header") 194) (Value.ref 137) (Value.ref 131)
noncomputable def o_179 : Params → Obj := fun _ => { cls := Value.type "tuple", data := Data.seq #[] }
noncomputable def o_180 : Params → Obj := fun _ => { cls := Value.none, data := Data.fields #[] }
noncomputable def o_181 : Params → Obj := fun _ => { cls := Value.type "tuple", data := Data.seq #[Value.str ("self") 360] }
noncomputable def o_182 : Params → Obj := fun _ => { cls := Value.type "tuple", data := Data.seq #[] }
noncomputable def o_183 : Params → Obj := fun _ => fobj (.inr (5, 4)) "_Accumulator.__len__" (Value.none) 0 [] (Value.none) (Value.none) (Value.none) (Value.none)
noncomputable def o_184 : Params → Obj := fun _ => { cls := Value.type "code", data := Data.fields #[Value.str ("__len__") 357, Value.str ("_Accumulator.__len__") 358, Value.str ("/claim/cut.py") 359, Value.int 94 0, Value.int 1 0, Value.int 0 0, Value.int 0 0, Value.int 3 0, Value.ref 139, Value.bool true, Value.int 181 0, Value.ref 140, Value.none, Value.ref 141, Value.ref 142, Value.ref 143, Value.int 361 0, Value.int 94 0, Value.str ("/claim/cut.py") 362] }
noncomputable def o_185 : Params → Obj := fun _ => fobj (.inr (5, 4)) "_Accumulator.__len__" (Value.type "function") 3 [] (Value.none) (Value.str ("cpy313.email.header") 194) (Value.ref 144) (Value.none)
noncomputable def o_186 : Params → Obj := fun _ => { cls := Value.type "tuple", data := Data.seq #[] }
noncomputable def o_187 : Params → Obj := fun _ => { cls := Value.none, data := Data.fields #[] }
noncomputable def o_188 : Params → Obj := fun _ => { cls := Value.type "tuple", data := Data.seq #[Value.str ("self") 367] }
noncomputable def o_189 : Params → Obj := fun _ => { cls := Value.type "tuple", data := Data.seq #[] }
noncomputable def o_190 : Params → Obj := fun _ => fobj (.inr (5, 5)) "_Accumulator.__str__" (Value.none) 0 [] (Value.none) (Value.none) (Value.none) (Value.none)
noncomputable def o_191 : Params → Obj := fun _ => { cls := Value.type "code", data := Data.fields #[Value.str ("__str__") 364, Value.str ("_Accumulator.__str__") 365, Value.str ("/claim/cut.py") 366, Value.int 97 0, Value.int 1 0, Value.int 0 0, Value.int 0 0, Value.int 3 0, Value.ref 146, Value.bool true, Value.int 181 0, Value.ref 147, Value.none, Value.ref 148, Value.ref 149, Value.ref 150, Value.int 368 0, Value.int 97 0, Value.str ("/claim/cut.py") 369] }
noncomputable def o_192 : Params → Obj := fun _ => fobj (.inr (5, 5)) "_Accumulator.__str__" (Value.type "function") 3 [] (Value.none) (Value.str ("cpy313.email.header") 194) (Value.ref 151) (Value.none)
noncomputable def o_193 : Params → Obj := fun _ => { cls := Value.type "tuple", data := Data.seq #[Value.none] }
noncomputable def o_194 : Params → Obj := fun _ => { cls := Value.type "tuple", data := Data.seq #[] }
noncomputable def o_195 : Params → Obj := fun _ => { cls := Value.none, data := Data.fields #[] }
noncomputable def o_196 : Params → Obj := fun _ => { cls := Value.type "tuple", data := Data.seq #[Value.str ("self") 374, Value.str ("startval") 375] }
noncomputable def o_197 : Params → Obj := fun _ => { cls := Value.type "tuple", data := Data.seq #[] }
noncomputable def o_198 : Params → Obj := fun _ => fobj (.inr (5, 6)) "_Accumulator.reset" (Value.none) 0 [] (Value.none) (Value.none) (Value.none) (Value.none)
noncomputable def o_199 : Params → Obj := fun _ => { cls := Value.type "code", data := Data.fields #[Value.str ("reset") 371, Value.str ("_Accumulator.reset") 372, Value.str ("/claim/cut.py") 373, Value.int 100 0, Value.int 2 0, Value.int 0 0, Value.int 0 0, Value.int 3 0, Value.ref 154, Value.bool true, Value.int 181 0, Value.ref 155, Value.none, Value.ref 156, Value.ref 157, Value.ref 158, Value.int 376 0, Value.int 100 0, Value.str ("/claim/cut.py") 377] }
noncomputable def o_200 : Params → Obj := fun _ => fobj (.inr (5, 6)) "_Accumulator.reset" (Value.type "function") 3 [] (Value.ref 153) (Value.str ("cpy313.email.header") 194) (Value.ref 159) (Value.none)
noncomputable def o_201 : Params → Obj := fun _ => { cls := Value.type "tuple", data := Data.seq #[] }
noncomputable def o_202 : Params → Obj := fun _ => { cls := Value.none, data := Data.fields #[] }
noncomputable def o_203 : Params → Obj := fun _ => { cls := Value.type "tuple", data := Data.seq #[Value.str ("self") 382] }
noncomputable def o_204 : Params → Obj := fun _ => { cls := Value.type "tuple", data := Data.seq #[] }
noncomputable def o_205 : Params → Obj := fun _ => fobj (.inr (5, 7)) "_Accumulator.is_onlyws" (Value.none) 0 [] (Value.none) (Value.none) (Value.none) (Value.none)
noncomputable def o_206 : Params → Obj := fun _ => { cls := Value.type "code", data := Data.fields #[Value.str ("is_onlyws") 379, Value.str ("_Accumulator.is_onlyws") 380, Value.str ("/claim/cut.py") 381, Value.int 106 0, Value.int 1 0, Value.int 0 0, Value.int 0 0, Value.int 3 0, Value.ref 161, Value.bool true, Value.int 181 0, Value.ref 162, Value.none, Value.ref 163, Value.ref 164, Value.ref 165, Value.int 383 0, Value.int 106 0, Value.str ("/claim/cut.py") 384] }
noncomputable def o_207 : Params → Obj := fun _ => fobj (.inr (5, 7)) "_Accumulator.is_onlyws" (Value.type "function") 3 [] (Value.none) (Value.str ("cpy313.email.header") 194) (Value.ref 166) (Value.none)
noncomputable def o_208 : Params → Obj := fun _ => { cls := Value.type "tuple", data := Data.seq #[Value.ref 102] }
noncomputable def o_209 : Params → Obj := fun _ => { cls := Value.type "tuple", data := Data.seq #[Value.str ("__class__") 389] }
noncomputable def o_210 : Params → Obj := fun _ => { cls := Value.none, data := Data.fields #[] }
noncomputable def o_211 : Params → Obj := fun _ => { cls := Value.type "tuple", data := Data.seq #[Value.str ("self") 390] }
noncomputable def o_212 : Params → Obj := fun _ => { cls := Value.type "tuple", data := Data.seq #[] }
noncomputable def o_213 : Params → Obj := fun _ => fobj (.inr (5, 8)) "_Accumulator.part_count" (Value.none) 0 [] (Value.none) (Value.none) (Value.none) (Value.none)
noncomputable def o_214 : Params → Obj := fun _ => { cls := Value.type "code", data := Data.fields #[Value.str ("part_count") 386, Value.str ("_Accumulator.part_count") 387, Value.str ("/claim/cut.py") 388, Value.int 109 0, Value.int 1 0, Value.int 0 0, Value.int 0 0, Value.int 3 0, Value.ref 169, Value.bool true, Value.int 181 0, Value.ref 170, Value.none, Value.ref 171, Value.ref 172, Value.ref 173, Value.int 391 0, Value.int 109 0, Value.str ("/claim/cut.py") 392] }
noncomputable def o_215 : Params → Obj := fun _ => fobj (.inr (5, 8)) "_Accumulator.part_count" (Value.type "function") 3 [("__class__", 102)] (Value.none) (Value.str ("cpy313.email.header") 194) (Value.ref 174) (Value.ref 168)
noncomputable def o_216 : Params → Obj := fun _ => { cls := Value.type "tuple", data := Data.seq #[Value.str ("_initial_size") 394] }
noncomputable def o_217 : Params → Obj := fun P => { cls := Value.type "dict", data := Data.dict #[kv P "__module__" 315 (Value.str ("cpy313.email.header") 194), kv P "__firstlineno__" 319 (Value.int 75 318), kv P "__init__" 329 (Value.ref 115), kv P "push" 338 (Value.ref 122), kv P "pop_from" 348 (Value.ref 130), kv P "pop" 356 (Value.ref 138), kv P "__len__" 363 (Value.ref 145), kv P "__str__" 370 (Value.ref 152), kv P "reset" 378 (Value.ref 160), kv P "is_onlyws" 385 (Value.ref 167), kv P "part_count" 393 (Value.ref 175), kv P "__static_attributes__" 395 (Value.ref 176), kv P "__dict__" 398 (Value.ref 179), kv P "__weakref__" 400 (Value.ref 180), kv P "__doc__" 401 (Value.none)] 5 }
noncomputable def o_218 : Params → Obj := fun _ => { cls := Value.type "type", data := Data.cls { name := "_Accumulator", bases := [Value.type "list"], mro := [Value.ref 178, Value.type "list", Value.type "object"], ns := 177, qualname := "_Accumulator" }, slots := #[some (Value.ref 99), none, some (Value.str ("_Accumulator") 308), some (Value.str ("_Accumulator") 316), some (Value.builtin "list.__new__"), some (Value.bool true)] }
noncomputable def o_219 : Params → Obj := fun _ => { cls := Value.type "getset_descriptor", data := Data.fields #[Value.str ("__dict__") 397, Value.ref 178, Value.builtin "function.__dict__", Value.builtin "function.__dict__#set"] }
noncomputable def o_220 : Params → Obj := fun _ => { cls := Value.type "getset_descriptor", data := Data.fields #[Value.str ("__weakref__") 399, Value.ref 178, Value.builtin "ExceptionGroup.__weakref__", Value.none] }
noncomputable def o_221 : Params → Obj := fun _ => { cls := Value.type "super", data := Data.fields #[Value.ref 178, Value.ref 178, Value.ref 178] }
noncomputable def o_222 : Params → Obj := fun _ => { cls := Value.type "builtin_function_or_method", data := Data.fields #[Value.builtin "object.__init_subclass__", Value.ref 178] }
noncomputable def o_225 : Params → Obj := fun _ => { cls := Value.type "tuple", data := Data.seq #[] }
noncomputable def o_226 : Params → Obj := fun _ => { cls := Value.none, data := Data.fields #[] }
noncomputable def o_227 : Params → Obj := fun _ => { cls := Value.type "tuple", data := Data.seq #[Value.str ("a") 409, Value.str ("b") 410] }
noncomputable def o_228 : Params → Obj := fun _ => { cls := Value.type "tuple", data := Data.seq #[] }
noncomputable def o_229 : Params → Obj := fun _ => fobj (.inl 7) "iadd" (Value.none) 0 [] (Value.none) (Value.none) (Value.none) (Value.none)
noncomputable def o_230 : Params → Obj := fun _ => { cls := Value.type "code", data := Data.fields #[Value.str ("iadd") 406, Value.str ("iadd") 407, Value.str ("/claim/cut.py") 408, Value.int 112 0, Value.int 2 0, Value.int 0 0, Value.int 0 0, Value.int 3 0, Value.ref 183, Value.bool true, Value.int 181 0, Value.ref 184, Value.none, Value.ref 185, Value.ref 186, Value.ref 187, Value.int 411 0, Value.int 112 0, Value.str ("/claim/cut.py") 412] }
noncomputable def o_231 : Params → Obj := fun _ => fobj (.inl 7) "iadd" (Value.type "function") 3 [] (Value.none) (Value.str ("cpy313.operator") 404) (Value.ref 188) (Value.none)
noncomputable def o_232 : Params → Obj := fun _ => { cls := Value.type "tuple", data := Data.seq #[] }
noncomputable def o_233 : Params → Obj := fun _ => { cls := Value.none, data := Data.fields #[] }
noncomputable def o_234 : Params → Obj := fun _ => { cls := Value.type "tuple", data := Data.seq #[Value.str ("a") 417, Value.str ("b") 418] }
noncomputable def o_235 : Params → Obj := fun _ => { cls := Value.type "tuple", data := Data.seq #[] }
noncomputable def o_236 : Params → Obj := fun _ => fobj (.inl 8) "imul" (Value.none) 0 [] (Value.none) (Value.none) (Value.none) (Value.none)
noncomputable def o_237 : Params → Obj := fun _ => { cls := Value.type "code", data := Data.fields #[Value.str ("imul") 414, Value.str ("imul") 415, Value.str ("/claim/cut.py") 416, Value.int 115 0, Value.int 2 0, Value.int 0 0, Value.int 0 0, Value.int 3 0, Value.ref 190, Value.bool true, Value.int 181 0, Value.ref 191, Value.none, Value.ref 192, Value.ref 193, Value.ref 194, Value.int 419 0, Value.int 115 0, Value.str ("/claim/cut.py") 420] }
noncomputable def o_238 : Params → Obj := fun _ => fobj (.inl 8) "imul" (Value.type "function") 3 [] (Value.none) (Value.str ("cpy313.operator") 404) (Value.ref 195) (Value.none)
noncomputable def o_241 : Params → Obj := fun P => { cls := Value.type "dict", data := Data.dict #[kv P "__name__" 165 (Value.str ("cpy313.token") 422), kv P "__doc__" 166 (Value.none), kv P "__package__" 167 (Value.none), kv P "__loader__" 168 (Value.builtin "__main__.__loader__#opaque"), kv P "__spec__" 169 (Value.none), kv P "__annotations__" 170 (Value.ref 6), kv P "__builtins__" 171 (Value.ref 4), kv P "__file__" 173 (Value.str ("/claim/cut.py") 172), kv P "__cached__" 174 (Value.none), kv P "_wall" 193 (Value.ref 21), kv P "NL" 197 (Value.str ("\n") 196), kv P "EMPTYSTRING" 199 (Value.str ("") 198), kv P "_ValueFormatter" 307 (Value.ref 94), kv P "_Accumulator" 403 (Value.ref 178), kv P "iadd" 413 (Value.ref 189), kv P "imul" 421 (Value.ref 196), kv P "LPAR" 425 (Value.int 7 424), kv P "RPAR" 427 (Value.int 8 426), kv P "LSQB" 429 (Value.int 9 428), kv P "RSQB" 431 (Value.int 10 430), kv P "COLON" 433 (Value.int 11 432), kv P "COMMA" 435 (Value.int 12 434), kv P "SEMI" 437 (Value.int 13 436), kv P "PLUS" 439 (Value.int 14 438), kv P "MINUS" 441 (Value.int 15 440), kv P "STAR" 443 (Value.int 16 442), kv P "SLASH" 445 (Value.int 17 444), kv P "VBAR" 447 (Value.int 18 446), kv P "AMPER" 449 (Value.int 19 448), kv P "LESS" 451 (Value.int 20 450), kv P "GREATER" 453 (Value.int 21 452), kv P "EQUAL" 455 (Value.int 22 454), kv P "DOT" 457 (Value.int 23 456), kv P "PERCENT" 459 (Value.int 24 458), kv P "LBRACE" 461 (Value.int 25 460), kv P "RBRACE" 463 (Value.int 26 462), kv P "EQEQUAL" 465 (Value.int 27 464), kv P "NOTEQUAL" 467 (Value.int 28 466), kv P "LESSEQUAL" 469 (Value.int 29 468), kv P "GREATEREQUAL" 471 (Value.int 30 470), kv P "TILDE" 473 (Value.int 31 472), kv P "CIRCUMFLEX" 475 (Value.int 32 474), kv P "LEFTSHIFT" 477 (Value.int 33 476), kv P "RIGHTSHIFT" 479 (Value.int 34 478), kv P "DOUBLESTAR" 481 (Value.int 35 480), kv P "PLUSEQUAL" 483 (Value.int 36 482), kv P "MINEQUAL" 485 (Value.int 37 484), kv P "STAREQUAL" 487 (Value.int 38 486), kv P "SLASHEQUAL" 489 (Value.int 39 488), kv P "PERCENTEQUAL" 491 (Value.int 40 490), kv P "AMPEREQUAL" 493 (Value.int 41 492), kv P "VBAREQUAL" 495 (Value.int 42 494), kv P "CIRCUMFLEXEQUAL" 497 (Value.int 43 496), kv P "LEFTSHIFTEQUAL" 499 (Value.int 44 498), kv P "RIGHTSHIFTEQUAL" 501 (Value.int 45 500), kv P "DOUBLESTAREQUAL" 503 (Value.int 46 502), kv P "DOUBLESLASH" 505 (Value.int 47 504), kv P "DOUBLESLASHEQUAL" 507 (Value.int 48 506), kv P "AT" 509 (Value.int 49 508), kv P "ATEQUAL" 511 (Value.int 50 510), kv P "RARROW" 513 (Value.int 51 512), kv P "ELLIPSIS" 515 (Value.int 52 514), kv P "COLONEQUAL" 517 (Value.int 53 516), kv P "EXCLAMATION" 519 (Value.int 54 518), kv P "NT_OFFSET" 521 (Value.int 256 520), kv P "EXACT_TOKEN_TYPES" 618 (Value.ref 197)] 66 }
noncomputable def o_242 : Params → Obj := fun P => { cls := Value.type "dict", data := Data.dict #[kv P "!" 522 (Value.int 54 518), kv P "!=" 524 (Value.int 28 466), kv P "%" 526 (Value.int 24 458), kv P "%=" 528 (Value.int 40 490), kv P "&" 530 (Value.int 19 448), kv P "&=" 532 (Value.int 41 492), kv P "(" 534 (Value.int 7 424), kv P ")" 536 (Value.int 8 426), kv P "*" 538 (Value.int 16 442), kv P "**" 540 (Value.int 35 480), kv P "**=" 542 (Value.int 46 502), kv P "*=" 544 (Value.int 38 486), kv P "+" 546 (Value.int 14 438), kv P "+=" 548 (Value.int 36 482), kv P "," 550 (Value.int 12 434), kv P "-" 552 (Value.int 15 440), kv P "-=" 554 (Value.int 37 484), kv P "->" 556 (Value.int 51 512), kv P "." 558 (Value.int 23 456), kv P "..." 560 (Value.int 52 514), kv P "/" 562 (Value.int 17 444), kv P "//" 564 (Value.int 47 504), kv P "//=" 566 (Value.int 48 506), kv P "/=" 568 (Value.int 39 488), kv P ":" 570 (Value.int 11 432), kv P ":=" 572 (Value.int 53 516), kv P ";" 574 (Value.int 13 436), kv P "<" 576 (Value.int 20 450), kv P "<<" 578 (Value.int 33 476), kv P "<<=" 580 (Value.int 44 498), kv P "<=" 582 (Value.int 29 468), kv P "=" 584 (Value.int 22 454), kv P "==" 586 (Value.int 27 464), kv P ">" 588 (Value.int 21 452), kv P ">=" 590 (Value.int 30 470), kv P ">>" 591 (Value.int 34 478), kv P ">>=" 592 (Value.int 45 500), kv P "@" 593 (Value.int 49 508), kv P "@=" 594 (Value.int 50 510), kv P "[" 595 (Value.int 9 428), kv P "]" 596 (Value.int 10 430), kv P "^" 597 (Value.int 32 474), kv P "^=" 598 (Value.int 43 496), kv P "{" 599 (Value.int 25 460), kv P "|" 600 (Value.int 18 446), kv P "|=" 601 (Value.int 42 494), kv P "}" 602 (Value.int 26 462), kv P "~" 603 (Value.int 31 472)] 48 }
noncomputable def o_243 : Params → Obj := fun P => { cls := Value.type "dict", data := Data.dict #[kv P "->" 556 (Value.int 51 512), kv P "." 558 (Value.int 23 456), kv P "..." 560 (Value.int 52 514), kv P "/" 562 (Value.int 17 444), kv P "//" 564 (Value.int 47 504), kv P "//=" 566 (Value.int 48 506), kv P "/=" 568 (Value.int 39 488), kv P ":" 570 (Value.int 11 432), kv P ":=" 572 (Value.int 53 516), kv P ";" 574 (Value.int 13 436), kv P "<" 576 (Value.int 20 450), kv P "<<" 578 (Value.int 33 476), kv P "<<=" 580 (Value.int 44 498), kv P "<=" 582 (Value.int 29 468), kv P "=" 584 (Value.int 22 454), kv P "==" 586 (Value.int 27 464), kv P ">" 588 (Value.int 21 452)] 17 }
noncomputable def o_244 : Params → Obj := fun P => { cls := Value.type "dict", data := Data.dict #[kv P ">=" 590 (Value.int 30 470), kv P ">>" 591 (Value.int 34 478), kv P ">>=" 592 (Value.int 45 500), kv P "@" 593 (Value.int 49 508), kv P "@=" 594 (Value.int 50 510), kv P "[" 595 (Value.int 9 428), kv P "]" 596 (Value.int 10 430), kv P "^" 597 (Value.int 32 474), kv P "^=" 598 (Value.int 43 496), kv P "{" 599 (Value.int 25 460), kv P "|" 600 (Value.int 18 446), kv P "|=" 601 (Value.int 42 494), kv P "}" 602 (Value.int 26 462), kv P "~" 603 (Value.int 31 472)] 14 }
noncomputable def o_248 : Params → Obj := fun P => { cls := Value.type "dict", data := Data.dict #[kv P "__name__" 165 (Value.str ("law_yh0026_01") 626), kv P "__doc__" 166 (Value.none), kv P "__package__" 167 (Value.none), kv P "__loader__" 168 (Value.builtin "__main__.__loader__#opaque"), kv P "__spec__" 169 (Value.none), kv P "__annotations__" 170 (Value.ref 6), kv P "__builtins__" 171 (Value.ref 4), kv P "__file__" 173 (Value.str ("/claim/cut.py") 172), kv P "__cached__" 174 (Value.none), kv P "_wall" 193 (Value.ref 21), kv P "NL" 197 (Value.str ("\n") 196), kv P "EMPTYSTRING" 199 (Value.str ("") 198), kv P "_ValueFormatter" 307 (Value.ref 94), kv P "_Accumulator" 403 (Value.ref 178), kv P "iadd" 413 (Value.ref 189), kv P "imul" 421 (Value.ref 196), kv P "LPAR" 425 (Value.int 7 424), kv P "RPAR" 427 (Value.int 8 426), kv P "LSQB" 429 (Value.int 9 428), kv P "RSQB" 431 (Value.int 10 430), kv P "COLON" 433 (Value.int 11 432), kv P "COMMA" 435 (Value.int 12 434), kv P "SEMI" 437 (Value.int 13 436), kv P "PLUS" 439 (Value.int 14 438), kv P "MINUS" 441 (Value.int 15 440), kv P "STAR" 443 (Value.int 16 442), kv P "SLASH" 445 (Value.int 17 444), kv P "VBAR" 447 (Value.int 18 446), kv P "AMPER" 449 (Value.int 19 448), kv P "LESS" 451 (Value.int 20 450), kv P "GREATER" 453 (Value.int 21 452), kv P "EQUAL" 455 (Value.int 22 454), kv P "DOT" 457 (Value.int 23 456), kv P "PERCENT" 459 (Value.int 24 458), kv P "LBRACE" 461 (Value.int 25 460), kv P "RBRACE" 463 (Value.int 26 462), kv P "EQEQUAL" 465 (Value.int 27 464), kv P "NOTEQUAL" 467 (Value.int 28 466), kv P "LESSEQUAL" 469 (Value.int 29 468), kv P "GREATEREQUAL" 471 (Value.int 30 470), kv P "TILDE" 473 (Value.int 31 472), kv P "CIRCUMFLEX" 475 (Value.int 32 474), kv P "LEFTSHIFT" 477 (Value.int 33 476), kv P "RIGHTSHIFT" 479 (Value.int 34 478), kv P "DOUBLESTAR" 481 (Value.int 35 480), kv P "PLUSEQUAL" 483 (Value.int 36 482), kv P "MINEQUAL" 485 (Value.int 37 484), kv P "STAREQUAL" 487 (Value.int 38 486), kv P "SLASHEQUAL" 489 (Value.int 39 488), kv P "PERCENTEQUAL" 491 (Value.int 40 490), kv P "AMPEREQUAL" 493 (Value.int 41 492), kv P "VBAREQUAL" 495 (Value.int 42 494), kv P "CIRCUMFLEXEQUAL" 497 (Value.int 43 496), kv P "LEFTSHIFTEQUAL" 499 (Value.int 44 498), kv P "RIGHTSHIFTEQUAL" 501 (Value.int 45 500), kv P "DOUBLESTAREQUAL" 503 (Value.int 46 502), kv P "DOUBLESLASH" 505 (Value.int 47 504), kv P "DOUBLESLASHEQUAL" 507 (Value.int 48 506), kv P "AT" 509 (Value.int 49 508), kv P "ATEQUAL" 511 (Value.int 50 510), kv P "RARROW" 513 (Value.int 51 512), kv P "ELLIPSIS" 515 (Value.int 52 514), kv P "COLONEQUAL" 517 (Value.int 53 516), kv P "EXCLAMATION" 519 (Value.int 54 518), kv P "NT_OFFSET" 521 (Value.int 256 520), kv P "EXACT_TOKEN_TYPES" 618 (Value.ref 197), kv P "ISTERMINAL" 625 (Value.ref 206), kv P "_law_cells" 636 (Value.ref 213), kv P "_law_text" 646 (Value.ref 220), kv P "_law_grow" 668 (Value.ref 227), kv P "_law_worth" 685 (Value.ref 234), kv P "_law_told" 701 (Value.ref 241), kv P "_law_due" 714 (Value.ref 248), kv P "law" 720 (Value.ref 253)] 74 }
noncomputable def o_249 : Params → Obj := fun _ => { cls := Value.none, data := Data.fields #[Value.int 1 0, Value.int 0 0, Value.ref 20, Value.int 7 0, Value.int 0 0, Value.ref 27, Value.int 75 0, Value.int 0 0, Value.ref 105, Value.int 112 0, Value.int 0 0, Value.ref 188, Value.int 115 0, Value.int 0 0, Value.ref 195, Value.int 169 0, Value.int 0 0, Value.ref 205, Value.int 172 0, Value.int 0 0, Value.ref 212, Value.int 177 0, Value.int 0 0, Value.ref 219, Value.int 182 0, Value.int 0 0, Value.ref 226, Value.int 204 0, Value.int 0 0, Value.ref 233, Value.int 211 0, Value.int 0 0, Value.ref 240, Value.int 227 0, Value.int 0 0, Value.ref 247, Value.int 237 0, Value.int 0 0, Value.ref 252] }
noncomputable def o_250 : Params → Obj := fun _ => { cls := Value.type "tuple", data := Data.seq #[] }
noncomputable def o_251 : Params → Obj := fun _ => { cls := Value.none, data := Data.fields #[] }
noncomputable def o_252 : Params → Obj := fun _ => { cls := Value.type "tuple", data := Data.seq #[Value.str ("x") 622] }
noncomputable def o_253 : Params → Obj := fun _ => { cls := Value.type "tuple", data := Data.seq #[] }
noncomputable def o_254 : Params → Obj := fun _ => fobj (.inl 60) "ISTERMINAL" (Value.none) 0 [] (Value.none) (Value.none) (Value.none) (Value.none)
noncomputable def o_255 : Params → Obj := fun _ => { cls := Value.type "code", data := Data.fields #[Value.str ("ISTERMINAL") 619, Value.str ("ISTERMINAL") 620, Value.str ("/claim/cut.py") 621, Value.int 169 0, Value.int 1 0, Value.int 0 0, Value.int 0 0, Value.int 3 0, Value.ref 200, Value.bool true, Value.int 181 0, Value.ref 201, Value.none, Value.ref 202, Value.ref 203, Value.ref 204, Value.int 623 0, Value.int 169 0, Value.str ("/claim/cut.py") 624] }
noncomputable def o_256 : Params → Obj := fun _ => fobj (.inl 60) "ISTERMINAL" (Value.type "function") 3 [] (Value.none) (Value.str ("cpy313.token") 422) (Value.ref 205) (Value.none)
noncomputable def o_257 : Params → Obj := fun _ => { cls := Value.type "tuple", data := Data.seq #[] }
noncomputable def o_258 : Params → Obj := fun _ => { cls := Value.none, data := Data.fields #[] }
noncomputable def o_259 : Params → Obj := fun _ => { cls := Value.type "tuple", data := Data.seq #[Value.str ("script") 631, Value.str ("cells") 632, Value.str ("k") 633] }
noncomputable def o_260 : Params → Obj := fun _ => { cls := Value.type "tuple", data := Data.seq #[] }
noncomputable def o_261 : Params → Obj := fun _ => fobj (.inl 62) "_law_cells" (Value.none) 0 [] (Value.none) (Value.none) (Value.none) (Value.none)
noncomputable def o_262 : Params → Obj := fun _ => { cls := Value.type "code", data := Data.fields #[Value.str ("_law_cells") 628, Value.str ("_law_cells") 629, Value.str ("/claim/cut.py") 630, Value.int 172 0, Value.int 1 0, Value.int 0 0, Value.int 0 0, Value.int 3 0, Value.ref 207, Value.bool true, Value.int 181 0, Value.ref 208, Value.none, Value.ref 209, Value.ref 210, Value.ref 211, Value.int 634 0, Value.int 172 0, Value.str ("/claim/cut.py") 635] }
noncomputable def o_263 : Params → Obj := fun _ => fobj (.inl 62) "_law_cells" (Value.type "function") 3 [] (Value.none) (Value.str ("law_yh0026_01") 626) (Value.ref 212) (Value.none)
noncomputable def o_264 : Params → Obj := fun _ => { cls := Value.type "tuple", data := Data.seq #[] }
noncomputable def o_265 : Params → Obj := fun _ => { cls := Value.none, data := Data.fields #[] }
noncomputable def o_266 : Params → Obj := fun _ => { cls := Value.type "tuple", data := Data.seq #[Value.str ("marks") 640, Value.str ("tail") 641, Value.str ("words") 642, Value.str ("k") 643] }
noncomputable def o_267 : Params → Obj := fun _ => { cls := Value.type "tuple", data := Data.seq #[] }
noncomputable def o_268 : Params → Obj := fun _ => fobj (.inl 63) "_law_text" (Value.none) 0 [] (Value.none) (Value.none) (Value.none) (Value.none)
noncomputable def o_269 : Params → Obj := fun _ => { cls := Value.type "code", data := Data.fields #[Value.str ("_law_text") 637, Value.str ("_law_text") 638, Value.str ("/claim/cut.py") 639, Value.int 177 0, Value.int 2 0, Value.int 0 0, Value.int 0 0, Value.int 3 0, Value.ref 214, Value.bool true, Value.int 181 0, Value.ref 215, Value.none, Value.ref 216, Value.ref 217, Value.ref 218, Value.int 644 0, Value.int 177 0, Value.str ("/claim/cut.py") 645] }
noncomputable def o_270 : Params → Obj := fun _ => fobj (.inl 63) "_law_text" (Value.type "function") 3 [] (Value.none) (Value.str ("law_yh0026_01") 626) (Value.ref 219) (Value.none)
noncomputable def o_271 : Params → Obj := fun _ => { cls := Value.type "tuple", data := Data.seq #[] }
noncomputable def o_272 : Params → Obj := fun _ => { cls := Value.none, data := Data.fields #[] }
noncomputable def o_273 : Params → Obj := fun _ => { cls := Value.type "tuple", data := Data.seq #[Value.str ("text") 650, Value.str ("signs") 651, Value.str ("head") 652, Value.str ("rules") 653, Value.str ("faults") 654, Value.str ("width") 655, Value.str ("page") 656, Value.str ("words") 657, Value.str ("k") 658, Value.str ("rooms") 659, Value.str ("room") 660, Value.str ("later") 661, Value.str ("left") 662, Value.str ("right") 663, Value.str ("one") 664, Value.str ("other") 665] }
noncomputable def o_274 : Params → Obj := fun _ => { cls := Value.type "tuple", data := Data.seq #[] }
noncomputable def o_275 : Params → Obj := fun _ => fobj (.inl 64) "_law_grow" (Value.none) 0 [] (Value.none) (Value.none) (Value.none) (Value.none)
noncomputable def o_276 : Params → Obj := fun _ => { cls := Value.type "code", data := Data.fields #[Value.str ("_law_grow") 647, Value.str ("_law_grow") 648, Value.str ("/claim/cut.py") 649, Value.int 182 0, Value.int 5 0, Value.int 0 0, Value.int 0 0, Value.int 3 0, Value.ref 221, Value.bool true, Value.int 181 0, Value.ref 222, Value.none, Value.ref 223, Value.ref 224, Value.ref 225, Value.int 666 0, Value.int 182 0, Value.str ("/claim/cut.py") 667] }
noncomputable def o_277 : Params → Obj := fun _ => fobj (.inl 64) "_law_grow" (Value.type "function") 3 [] (Value.none) (Value.str ("law_yh0026_01") 626) (Value.ref 226) (Value.none)
noncomputable def o_278 : Params → Obj := fun _ => { cls := Value.type "tuple", data := Data.seq #[] }
noncomputable def o_279 : Params → Obj := fun _ => { cls := Value.none, data := Data.fields #[] }
noncomputable def o_280 : Params → Obj := fun _ => { cls := Value.type "tuple", data := Data.seq #[Value.str ("symbol") 672, Value.str ("rules") 673, Value.str ("base") 674, Value.str ("numbers") 675, Value.str ("former") 676, Value.str ("latter") 677, Value.str ("number") 678, Value.str ("one") 679, Value.str ("other") 680, Value.str ("left") 681, Value.str ("right") 682] }
noncomputable def o_281 : Params → Obj := fun _ => { cls := Value.type "tuple", data := Data.seq #[] }
noncomputable def o_282 : Params → Obj := fun _ => fobj (.inl 65) "_law_worth" (Value.none) 0 [] (Value.none) (Value.none) (Value.none) (Value.none)
noncomputable def o_283 : Params → Obj := fun _ => { cls := Value.type "code", data := Data.fields #[Value.str ("_law_worth") 669, Value.str ("_law_worth") 670, Value.str ("/claim/cut.py") 671, Value.int 204 0, Value.int 6 0, Value.int 0 0, Value.int 0 0, Value.int 3 0, Value.ref 228, Value.bool true, Value.int 181 0, Value.ref 229, Value.none, Value.ref 230, Value.ref 231, Value.ref 232, Value.int 683 0, Value.int 204 0, Value.str ("/claim/cut.py") 684] }
noncomputable def o_284 : Params → Obj := fun _ => fobj (.inl 65) "_law_worth" (Value.type "function") 3 [] (Value.none) (Value.str ("law_yh0026_01") 626) (Value.ref 233) (Value.none)
noncomputable def o_285 : Params → Obj := fun _ => { cls := Value.type "tuple", data := Data.seq #[] }
noncomputable def o_286 : Params → Obj := fun _ => { cls := Value.none, data := Data.fields #[] }
noncomputable def o_287 : Params → Obj := fun _ => { cls := Value.type "tuple", data := Data.seq #[Value.str ("ops") 689, Value.str ("ranks") 690, Value.str ("numbers") 691, Value.str ("former") 692, Value.str ("latter") 693, Value.str ("total") 694, Value.str ("i") 695, Value.str ("share") 696, Value.str ("loosest") 697, Value.str ("j") 698] }
noncomputable def o_288 : Params → Obj := fun _ => { cls := Value.type "tuple", data := Data.seq #[] }
noncomputable def o_289 : Params → Obj := fun _ => fobj (.inl 66) "_law_told" (Value.none) 0 [] (Value.none) (Value.none) (Value.none) (Value.none)
noncomputable def o_290 : Params → Obj := fun _ => { cls := Value.type "code", data := Data.fields #[Value.str ("_law_told") 686, Value.str ("_law_told") 687, Value.str ("/claim/cut.py") 688, Value.int 211 0, Value.int 5 0, Value.int 0 0, Value.int 0 0, Value.int 3 0, Value.ref 235, Value.bool true, Value.int 181 0, Value.ref 236, Value.none, Value.ref 237, Value.ref 238, Value.ref 239, Value.int 699 0, Value.int 211 0, Value.str ("/claim/cut.py") 700] }
noncomputable def o_291 : Params → Obj := fun _ => fobj (.inl 66) "_law_told" (Value.type "function") 3 [] (Value.none) (Value.str ("law_yh0026_01") 626) (Value.ref 240) (Value.none)
noncomputable def o_292 : Params → Obj := fun _ => { cls := Value.type "tuple", data := Data.seq #[] }
noncomputable def o_293 : Params → Obj := fun _ => { cls := Value.none, data := Data.fields #[] }
noncomputable def o_294 : Params → Obj := fun _ => { cls := Value.type "tuple", data := Data.seq #[Value.str ("numbers") 705, Value.str ("former") 706, Value.str ("latter") 707, Value.str ("total") 708, Value.str ("i") 709, Value.str ("share") 710, Value.str ("j") 711] }
noncomputable def o_295 : Params → Obj := fun _ => { cls := Value.type "tuple", data := Data.seq #[] }
noncomputable def o_296 : Params → Obj := fun _ => fobj (.inl 67) "_law_due" (Value.none) 0 [] (Value.none) (Value.none) (Value.none) (Value.none)
noncomputable def o_297 : Params → Obj := fun _ => { cls := Value.type "code", data := Data.fields #[Value.str ("_law_due") 702, Value.str ("_law_due") 703, Value.str ("/claim/cut.py") 704, Value.int 227 0, Value.int 3 0, Value.int 0 0, Value.int 0 0, Value.int 3 0, Value.ref 242, Value.bool true, Value.int 181 0, Value.ref 243, Value.none, Value.ref 244, Value.ref 245, Value.ref 246, Value.int 712 0, Value.int 227 0, Value.str ("/claim/cut.py") 713] }
noncomputable def o_298 : Params → Obj := fun _ => fobj (.inl 67) "_law_due" (Value.type "function") 3 [] (Value.none) (Value.str ("law_yh0026_01") 626) (Value.ref 247) (Value.none)
noncomputable def o_299 : Params → Obj := fun _ => { cls := Value.type "tuple", data := Data.seq #[] }
noncomputable def o_300 : Params → Obj := fun _ => { cls := Value.none, data := Data.fields #[] }
noncomputable def o_301 : Params → Obj := fun _ => fobj (.inl 68) "law" (Value.none) 0 [] (Value.none) (Value.none) (Value.none) (Value.none)
noncomputable def o_302 : Params → Obj := fun _ => { cls := Value.type "code", data := Data.fields #[Value.str ("law") 715, Value.str ("law") 716, Value.str ("/claim/cut.py") 717, Value.int 237 0, Value.int 1 0, Value.int 0 0, Value.int 0 0, Value.int 3 0, Value.ref 249, Value.bool true, Value.int 181 0, Value.ref 250, Value.none, Value.none, Value.none, Value.ref 251, Value.int 718 0, Value.int 237 0, Value.str ("/claim/cut.py") 719] }
noncomputable def o_303 : Params → Obj := fun _ => fobj (.inl 68) "law" (Value.type "function") 3 [] (Value.none) (Value.str ("law_yh0026_01") 626) (Value.ref 252) (Value.none)
noncomputable def tree_47 : Params → BT := fun P => (.node (boot_o_0 P) (.node (boot_o_1 P) (.node (boot_o_3 P) (.node (boot_o_7 P) .nil .nil) (.node (o_43 P) .nil .nil)) (.node (boot_o_5 P) (.node (boot_o_9 P) .nil .nil) (.node (o_45 P) .nil .nil))) (.node (boot_o_2 P) (.node (boot_o_4 P) (.node (boot_o_8 P) .nil .nil) (.node (o_44 P) .nil .nil)) (.node (boot_o_6 P) (.node (boot_o_10 P) .nil .nil) (.node (o_46 P) .nil .nil))))
noncomputable def tree_239 : Params → BT := fun P => (.node (boot_o_0 P) (.node (boot_o_1 P) (.node (o_239 P) (.node (boot_o_7 P) (.node (o_51 P) (.node (o_69 P) (.node (o_101 P) (.node (o_167 P) .nil .nil) (.node (o_233 P) .nil .nil)) (.node (o_133 P) (.node (o_199 P) .nil .nil) .nil)) (.node (o_85 P) (.node (o_117 P) (.node (o_183 P) .nil .nil) .nil) (.node (o_151 P) (.node (o_215 P) .nil .nil) .nil))) (.node (o_61 P) (.node (o_77 P) (.node (o_109 P) (.node (o_175 P) .nil .nil) .nil) (.node (o_143 P) (.node (o_207 P) .nil .nil) .nil)) (.node (o_93 P) (.node (o_125 P) (.node (o_191 P) .nil .nil) .nil) (.node (o_159 P) (.node (o_225 P) .nil .nil) .nil)))) (.node (o_43 P) (.node (o_55 P) (.node (o_73 P) (.node (o_105 P) (.node (o_171 P) .nil .nil) (.node (o_237 P) .nil .nil)) (.node (o_139 P) (.node (o_203 P) .nil .nil) .nil)) (.node (o_89 P) (.node (o_121 P) (.node (o_187 P) .nil .nil) .nil) (.node (o_155 P) (.node (o_219 P) .nil .nil) .nil))) (.node (o_65 P) (.node (o_81 P) (.node (o_113 P) (.node (o_179 P) .nil .nil) .nil) (.node (o_147 P) (.node (o_211 P) .nil .nil) .nil)) (.node (o_97 P) (.node (o_129 P) (.node (o_195 P) .nil .nil) .nil) (.node (o_163 P) (.node (o_229 P) .nil .nil) .nil))))) (.node (boot_o_5 P) (.node (boot_o_9 P) (.node (o_53 P) (.node (o_71 P) (.node (o_103 P) (.node (o_169 P) .nil .nil) (.node (o_235 P) .nil .nil)) (.node (o_135 P) (.node (o_201 P) .nil .nil) .nil)) (.node (o_87 P) (.node (o_119 P) (.node (o_185 P) .nil .nil) .nil) (.node (o_153 P) (.node (o_217 P) .nil .nil) .nil))) (.node (o_63 P) (.node (o_79 P) (.node (o_111 P) (.node (o_177 P) .nil .nil) .nil) (.node (o_145 P) (.node (o_209 P) .nil .nil) .nil)) (.node (o_95 P) (.node (o_127 P) (.node (o_193 P) .nil .nil) .nil) (.node (o_161 P) (.node (o_227 P) .nil .nil) .nil)))) (.node (o_45 P) (.node (o_57 P) (.node (o_75 P) (.node (o_107 P) (.node (o_173 P) .nil .nil) .nil) (.node (o_141 P) (.node (o_205 P) .nil .nil) .nil)) (.node (o_91 P) (.node (o_123 P) (.node (o_189 P) .nil .nil) .nil) (.node (o_157 P) (.node (o_221 P) .nil .nil) .nil))) (.node (o_67 P) (.node (o_83 P) (.node (o_115 P) (.node (o_181 P) .nil .nil) .nil) (.node (o_149 P) (.node (o_213 P) .nil .nil) .nil)) (.node (o_99 P) (.node (o_131 P) (.node (o_197 P) .nil .nil) .nil) (.node (o_165 P) (.node (o_231 P) .nil .nil) .nil)))))) (.node (boot_o_2 P) (.node (boot_o_4 P) (.node (boot_o_8 P) (.node (o_52 P) (.node (o_70 P) (.node (o_102 P) (.node (o_168 P) .nil .nil) (.node (o_234 P) .nil .nil)) (.node (o_134 P) (.node (o_200 P) .nil .nil) .nil)) (.node (o_86 P) (.node (o_118 P) (.node (o_184 P) .nil .nil) .nil) (.node (o_152 P) (.node (o_216 P) .nil .nil) .nil))) (.node (o_62 P) (.node (o_78 P) (.node (o_110 P) (.node (o_176 P) .nil .nil) .nil) (.node (o_144 P) (.node (o_208 P) .nil .nil) .nil)) (.node (o_94 P) (.node (o_126 P) (.node (o_192 P) .nil .nil) .nil) (.node (o_160 P) (.node (o_226 P) .nil .nil) .nil)))) (.node (o_224 P) (.node (o_56 P) (.node (o_74 P) (.node (o_106 P) (.node (o_172 P) .nil .nil) (.node (o_238 P) .nil .nil)) (.node (o_140 P) (.node (o_204 P) .nil .nil) .nil)) (.node (o_90 P) (.node (o_122 P) (.node (o_188 P) .nil .nil) .nil) (.node (o_156 P) (.node (o_220 P) .nil .nil) .nil))) (.node (o_66 P) (.node (o_82 P) (.node (o_114 P) (.node (o_180 P) .nil .nil) .nil) (.node (o_148 P) (.node (o_212 P) .nil .nil) .nil)) (.node (o_98 P) (.node (o_130 P) (.node (o_196 P) .nil .nil) .nil) (.node (o_164 P) (.node (o_230 P) .nil .nil) .nil))))) (.node (boot_o_6 P) (.node (boot_o_10 P) (.node (o_54 P) (.node (o_72 P) (.node (o_104 P) (.node (o_170 P) .nil .nil) (.node (o_236 P) .nil .nil)) (.node (o_136 P) (.node (o_202 P) .nil .nil) .nil)) (.node (o_88 P) (.node (o_120 P) (.node (o_186 P) .nil .nil) .nil) (.node (o_154 P) (.node (o_218 P) .nil .nil) .nil))) (.node (o_64 P) (.node (o_80 P) (.node (o_112 P) (.node (o_178 P) .nil .nil) .nil) (.node (o_146 P) (.node (o_210 P) .nil .nil) .nil)) (.node (o_96 P) (.node (o_128 P) (.node (o_194 P) .nil .nil) .nil) (.node (o_162 P) (.node (o_228 P) .nil .nil) .nil)))) (.node (o_46 P) (.node (o_60 P) (.node (o_76 P) (.node (o_108 P) (.node (o_174 P) .nil .nil) .nil) (.node (o_142 P) (.node (o_206 P) .nil .nil) .nil)) (.node (o_92 P) (.node (o_124 P) (.node (o_190 P) .nil .nil) .nil) (.node (o_158 P) (.node (o_222 P) .nil .nil) .nil))) (.node (o_68 P) (.node (o_84 P) (.node (o_116 P) (.node (o_182 P) .nil .nil) .nil) (.node (o_150 P) (.node (o_214 P) .nil .nil) .nil)) (.node (o_100 P) (.node (o_132 P) (.node (o_198 P) .nil .nil) .nil) (.node (o_166 P) (.node (o_232 P) .nil .nil) .nil)))))))
noncomputable def tree_244 : Params → BT := fun P => (.node (boot_o_0 P) (.node (boot_o_1 P) (.node (o_241 P) (.node (boot_o_7 P) (.node (o_51 P) (.node (o_69 P) (.node (o_101 P) (.node (o_167 P) .nil .nil) (.node (o_233 P) .nil .nil)) (.node (o_133 P) (.node (o_199 P) .nil .nil) .nil)) (.node (o_85 P) (.node (o_117 P) (.node (o_183 P) .nil .nil) .nil) (.node (o_151 P) (.node (o_215 P) .nil .nil) .nil))) (.node (o_61 P) (.node (o_77 P) (.node (o_109 P) (.node (o_175 P) .nil .nil) (.node (o_244 P) .nil .nil)) (.node (o_143 P) (.node (o_207 P) .nil .nil) .nil)) (.node (o_93 P) (.node (o_125 P) (.node (o_191 P) .nil .nil) .nil) (.node (o_159 P) (.node (o_225 P) .nil .nil) .nil)))) (.node (o_43 P) (.node (o_55 P) (.node (o_73 P) (.node (o_105 P) (.node (o_171 P) .nil .nil) (.node (o_237 P) .nil .nil)) (.node (o_139 P) (.node (o_203 P) .nil .nil) .nil)) (.node (o_89 P) (.node (o_121 P) (.node (o_187 P) .nil .nil) .nil) (.node (o_155 P) (.node (o_219 P) .nil .nil) .nil))) (.node (o_65 P) (.node (o_81 P) (.node (o_113 P) (.node (o_179 P) .nil .nil) .nil) (.node (o_147 P) (.node (o_211 P) .nil .nil) .nil)) (.node (o_97 P) (.node (o_129 P) (.node (o_195 P) .nil .nil) .nil) (.node (o_163 P) (.node (o_229 P) .nil .nil) .nil))))) (.node (boot_o_5 P) (.node (boot_o_9 P) (.node (o_53 P) (.node (o_71 P) (.node (o_103 P) (.node (o_169 P) .nil .nil) (.node (o_235 P) .nil .nil)) (.node (o_135 P) (.node (o_201 P) .nil .nil) .nil)) (.node (o_87 P) (.node (o_119 P) (.node (o_185 P) .nil .nil) .nil) (.node (o_153 P) (.node (o_217 P) .nil .nil) .nil))) (.node (o_63 P) (.node (o_79 P) (.node (o_111 P) (.node (o_177 P) .nil .nil) .nil) (.node (o_145 P) (.node (o_209 P) .nil .nil) .nil)) (.node (o_95 P) (.node (o_127 P) (.node (o_193 P) .nil .nil) .nil) (.node (o_161 P) (.node (o_227 P) .nil .nil) .nil)))) (.node (o_45 P) (.node (o_57 P) (.node (o_75 P) (.node (o_107 P) (.node (o_173 P) .nil .nil) (.node (o_242 P) .nil .nil)) (.node (o_141 P) (.node (o_205 P) .nil .nil) .nil)) (.node (o_91 P) (.node (o_123 P) (.node (o_189 P) .nil .nil) .nil) (.node (o_157 P) (.node (o_221 P) .nil .nil) .nil))) (.node (o_67 P) (.node (o_83 P) (.node (o_115 P) (.node (o_181 P) .nil .nil) .nil) (.node (o_149 P) (.node (o_213 P) .nil .nil) .nil)) (.node (o_99 P) (.node (o_131 P) (.node (o_197 P) .nil .nil) .nil) (.node (o_165 P) (.node (o_231 P) .nil .nil) .nil)))))) (.node (boot_o_2 P) (.node (boot_o_4 P) (.node (boot_o_8 P) (.node (o_52 P) (.node (o_70 P) (.node (o_102 P) (.node (o_168 P) .nil .nil) (.node (o_234 P) .nil .nil)) (.node (o_134 P) (.node (o_200 P) .nil .nil) .nil)) (.node (o_86 P) (.node (o_118 P) (.node (o_184 P) .nil .nil) .nil) (.node (o_152 P) (.node (o_216 P) .nil .nil) .nil))) (.node (o_62 P) (.node (o_78 P) (.node (o_110 P) (.node (o_176 P) .nil .nil) .nil) (.node (o_144 P) (.node (o_208 P) .nil .nil) .nil)) (.node (o_94 P) (.node (o_126 P) (.node (o_192 P) .nil .nil) .nil) (.node (o_160 P) (.node (o_226 P) .nil .nil) .nil)))) (.node (o_224 P) (.node (o_56 P) (.node (o_74 P) (.node (o_106 P) (.node (o_172 P) .nil .nil) (.node (o_238 P) .nil .nil)) (.node (o_140 P) (.node (o_204 P) .nil .nil) .nil)) (.node (o_90 P) (.node (o_122 P) (.node (o_188 P) .nil .nil) .nil) (.node (o_156 P) (.node (o_220 P) .nil .nil) .nil))) (.node (o_66 P) (.node (o_82 P) (.node (o_114 P) (.node (o_180 P) .nil .nil) .nil) (.node (o_148 P) (.node (o_212 P) .nil .nil) .nil)) (.node (o_98 P) (.node (o_130 P) (.node (o_196 P) .nil .nil) .nil) (.node (o_164 P) (.node (o_230 P) .nil .nil) .nil))))) (.node (boot_o_6 P) (.node (boot_o_10 P) (.node (o_54 P) (.node (o_72 P) (.node (o_104 P) (.node (o_170 P) .nil .nil) (.node (o_236 P) .nil .nil)) (.node (o_136 P) (.node (o_202 P) .nil .nil) .nil)) (.node (o_88 P) (.node (o_120 P) (.node (o_186 P) .nil .nil) .nil) (.node (o_154 P) (.node (o_218 P) .nil .nil) .nil))) (.node (o_64 P) (.node (o_80 P) (.node (o_112 P) (.node (o_178 P) .nil .nil) .nil) (.node (o_146 P) (.node (o_210 P) .nil .nil) .nil)) (.node (o_96 P) (.node (o_128 P) (.node (o_194 P) .nil .nil) .nil) (.node (o_162 P) (.node (o_228 P) .nil .nil) .nil)))) (.node (o_46 P) (.node (o_60 P) (.node (o_76 P) (.node (o_108 P) (.node (o_174 P) .nil .nil) (.node (o_243 P) .nil .nil)) (.node (o_142 P) (.node (o_206 P) .nil .nil) .nil)) (.node (o_92 P) (.node (o_124 P) (.node (o_190 P) .nil .nil) .nil) (.node (o_158 P) (.node (o_222 P) .nil .nil) .nil))) (.node (o_68 P) (.node (o_84 P) (.node (o_116 P) (.node (o_182 P) .nil .nil) .nil) (.node (o_150 P) (.node (o_214 P) .nil .nil) .nil)) (.node (o_100 P) (.node (o_132 P) (.node (o_198 P) .nil .nil) .nil) (.node (o_166 P) (.node (o_232 P) .nil .nil) .nil)))))))
noncomputable def tree_303 : Params → BT := fun P => (.node (boot_o_0 P) (.node (boot_o_1 P) (.node (o_248 P) (.node (boot_o_7 P) (.node (o_51 P) (.node (o_69 P) (.node (o_101 P) (.node (o_167 P) .nil .nil) (.node (o_233 P) .nil .nil)) (.node (o_133 P) (.node (o_199 P) .nil .nil) (.node (o_273 P) .nil .nil))) (.node (o_85 P) (.node (o_117 P) (.node (o_183 P) .nil .nil) (.node (o_257 P) .nil .nil)) (.node (o_151 P) (.node (o_215 P) .nil .nil) (.node (o_289 P) .nil .nil)))) (.node (o_61 P) (.node (o_77 P) (.node (o_109 P) (.node (o_175 P) .nil .nil) (.node (o_244 P) .nil .nil)) (.node (o_143 P) (.node (o_207 P) .nil .nil) (.node (o_281 P) .nil .nil))) (.node (o_93 P) (.node (o_125 P) (.node (o_191 P) .nil .nil) (.node (o_265 P) .nil .nil)) (.node (o_159 P) (.node (o_225 P) .nil .nil) (.node (o_297 P) .nil .nil))))) (.node (o_43 P) (.node (o_55 P) (.node (o_73 P) (.node (o_105 P) (.node (o_171 P) .nil .nil) (.node (o_237 P) .nil .nil)) (.node (o_139 P) (.node (o_203 P) .nil .nil) (.node (o_277 P) .nil .nil))) (.node (o_89 P) (.node (o_121 P) (.node (o_187 P) .nil .nil) (.node (o_261 P) .nil .nil)) (.node (o_155 P) (.node (o_219 P) .nil .nil) (.node (o_293 P) .nil .nil)))) (.node (o_65 P) (.node (o_81 P) (.node (o_113 P) (.node (o_179 P) .nil .nil) (.node (o_253 P) .nil .nil)) (.node (o_147 P) (.node (o_211 P) .nil .nil) (.node (o_285 P) .nil .nil))) (.node (o_97 P) (.node (o_129 P) (.node (o_195 P) .nil .nil) (.node (o_269 P) .nil .nil)) (.node (o_163 P) (.node (o_229 P) .nil .nil) (.node (o_301 P) .nil .nil)))))) (.node (boot_o_5 P) (.node (boot_o_9 P) (.node (o_53 P) (.node (o_71 P) (.node (o_103 P) (.node (o_169 P) .nil .nil) (.node (o_235 P) .nil .nil)) (.node (o_135 P) (.node (o_201 P) .nil .nil) (.node (o_275 P) .nil .nil))) (.node (o_87 P) (.node (o_119 P) (.node (o_185 P) .nil .nil) (.node (o_259 P) .nil .nil)) (.node (o_153 P) (.node (o_217 P) .nil .nil) (.node (o_291 P) .nil .nil)))) (.node (o_63 P) (.node (o_79 P) (.node (o_111 P) (.node (o_177 P) .nil .nil) (.node (o_251 P) .nil .nil)) (.node (o_145 P) (.node (o_209 P) .nil .nil) (.node (o_283 P) .nil .nil))) (.node (o_95 P) (.node (o_127 P) (.node (o_193 P) .nil .nil) (.node (o_267 P) .nil .nil)) (.node (o_161 P) (.node (o_227 P) .nil .nil) (.node (o_299 P) .nil .nil))))) (.node (o_45 P) (.node (o_57 P) (.node (o_75 P) (.node (o_107 P) (.node (o_173 P) .nil .nil) (.node (o_242 P) .nil .nil)) (.node (o_141 P) (.node (o_205 P) .nil .nil) (.node (o_279 P) .nil .nil))) (.node (o_91 P) (.node (o_123 P) (.node (o_189 P) .nil .nil) (.node (o_263 P) .nil .nil)) (.node (o_157 P) (.node (o_221 P) .nil .nil) (.node (o_295 P) .nil .nil)))) (.node (o_67 P) (.node (o_83 P) (.node (o_115 P) (.node (o_181 P) .nil .nil) (.node (o_255 P) .nil .nil)) (.node (o_149 P) (.node (o_213 P) .nil .nil) (.node (o_287 P) .nil .nil))) (.node (o_99 P) (.node (o_131 P) (.node (o_197 P) .nil .nil) (.node (o_271 P) .nil .nil)) (.node (o_165 P) (.node (o_231 P) .nil .nil) (.node (o_303 P) .nil .nil))))))) (.node (boot_o_2 P) (.node (boot_o_4 P) (.node (boot_o_8 P) (.node (o_52 P) (.node (o_70 P) (.node (o_102 P) (.node (o_168 P) .nil .nil) (.node (o_234 P) .nil .nil)) (.node (o_134 P) (.node (o_200 P) .nil .nil) (.node (o_274 P) .nil .nil))) (.node (o_86 P) (.node (o_118 P) (.node (o_184 P) .nil .nil) (.node (o_258 P) .nil .nil)) (.node (o_152 P) (.node (o_216 P) .nil .nil) (.node (o_290 P) .nil .nil)))) (.node (o_62 P) (.node (o_78 P) (.node (o_110 P) (.node (o_176 P) .nil .nil) (.node (o_250 P) .nil .nil)) (.node (o_144 P) (.node (o_208 P) .nil .nil) (.node (o_282 P) .nil .nil))) (.node (o_94 P) (.node (o_126 P) (.node (o_192 P) .nil .nil) (.node (o_266 P) .nil .nil)) (.node (o_160 P) (.node (o_226 P) .nil .nil) (.node (o_298 P) .nil .nil))))) (.node (o_249 P) (.node (o_56 P) (.node (o_74 P) (.node (o_106 P) (.node (o_172 P) .nil .nil) (.node (o_238 P) .nil .nil)) (.node (o_140 P) (.node (o_204 P) .nil .nil) (.node (o_278 P) .nil .nil))) (.node (o_90 P) (.node (o_122 P) (.node (o_188 P) .nil .nil) (.node (o_262 P) .nil .nil)) (.node (o_156 P) (.node (o_220 P) .nil .nil) (.node (o_294 P) .nil .nil)))) (.node (o_66 P) (.node (o_82 P) (.node (o_114 P) (.node (o_180 P) .nil .nil) (.node (o_254 P) .nil .nil)) (.node (o_148 P) (.node (o_212 P) .nil .nil) (.node (o_286 P) .nil .nil))) (.node (o_98 P) (.node (o_130 P) (.node (o_196 P) .nil .nil) (.node (o_270 P) .nil .nil)) (.node (o_164 P) (.node (o_230 P) .nil .nil) (.node (o_302 P) .nil .nil)))))) (.node (boot_o_6 P) (.node (boot_o_10 P) (.node (o_54 P) (.node (o_72 P) (.node (o_104 P) (.node (o_170 P) .nil .nil) (.node (o_236 P) .nil .nil)) (.node (o_136 P) (.node (o_202 P) .nil .nil) (.node (o_276 P) .nil .nil))) (.node (o_88 P) (.node (o_120 P) (.node (o_186 P) .nil .nil) (.node (o_260 P) .nil .nil)) (.node (o_154 P) (.node (o_218 P) .nil .nil) (.node (o_292 P) .nil .nil)))) (.node (o_64 P) (.node (o_80 P) (.node (o_112 P) (.node (o_178 P) .nil .nil) (.node (o_252 P) .nil .nil)) (.node (o_146 P) (.node (o_210 P) .nil .nil) (.node (o_284 P) .nil .nil))) (.node (o_96 P) (.node (o_128 P) (.node (o_194 P) .nil .nil) (.node (o_268 P) .nil .nil)) (.node (o_162 P) (.node (o_228 P) .nil .nil) (.node (o_300 P) .nil .nil))))) (.node (o_46 P) (.node (o_60 P) (.node (o_76 P) (.node (o_108 P) (.node (o_174 P) .nil .nil) (.node (o_243 P) .nil .nil)) (.node (o_142 P) (.node (o_206 P) .nil .nil) (.node (o_280 P) .nil .nil))) (.node (o_92 P) (.node (o_124 P) (.node (o_190 P) .nil .nil) (.node (o_264 P) .nil .nil)) (.node (o_158 P) (.node (o_222 P) .nil .nil) (.node (o_296 P) .nil .nil)))) (.node (o_68 P) (.node (o_84 P) (.node (o_116 P) (.node (o_182 P) .nil .nil) (.node (o_256 P) .nil .nil)) (.node (o_150 P) (.node (o_214 P) .nil .nil) (.node (o_288 P) .nil .nil))) (.node (o_100 P) (.node (o_132 P) (.node (o_198 P) .nil .nil) (.node (o_272 P) .nil .nil)) (.node (o_166 P) (.node (o_232 P) .nil .nil) .nil)))))))
noncomputable def heap_46 : Params → Heap := fun P => ⟨⟨[boot_o_0 P, boot_o_1 P, boot_o_2 P, boot_o_3 P, boot_o_4 P, boot_o_5 P, boot_o_6 P, boot_o_7 P, boot_o_8 P, boot_o_9 P, boot_o_10 P, o_43 P, o_44 P, o_45 P, o_46 P]⟩, {}⟩
noncomputable def heap_304 : Params → Heap := fun P => ⟨⟨[boot_o_0 P, boot_o_1 P, boot_o_2 P, o_248 P, boot_o_4 P, boot_o_5 P, boot_o_6 P, boot_o_7 P, boot_o_8 P, boot_o_9 P, boot_o_10 P, o_43 P, o_249 P, o_45 P, o_46 P, o_51 P, o_52 P, o_53 P, o_54 P, o_55 P, o_56 P, o_57 P, o_60 P, o_61 P, o_62 P, o_63 P, o_64 P, o_65 P, o_66 P, o_67 P, o_68 P, o_69 P, o_70 P, o_71 P, o_72 P, o_73 P, o_74 P, o_75 P, o_76 P, o_77 P, o_78 P, o_79 P, o_80 P, o_81 P, o_82 P, o_83 P, o_84 P, o_85 P, o_86 P, o_87 P, o_88 P, o_89 P, o_90 P, o_91 P, o_92 P, o_93 P, o_94 P, o_95 P, o_96 P, o_97 P, o_98 P, o_99 P, o_100 P, o_101 P, o_102 P, o_103 P, o_104 P, o_105 P, o_106 P, o_107 P, o_108 P, o_109 P, o_110 P, o_111 P, o_112 P, o_113 P, o_114 P, o_115 P, o_116 P, o_117 P, o_118 P, o_119 P, o_120 P, o_121 P, o_122 P, o_123 P, o_124 P, o_125 P, o_126 P, o_127 P, o_128 P, o_129 P, o_130 P, o_131 P, o_132 P, o_133 P, o_134 P, o_135 P, o_136 P, o_139 P, o_140 P, o_141 P, o_142 P, o_143 P, o_144 P, o_145 P, o_146 P, o_147 P, o_148 P, o_149 P, o_150 P, o_151 P, o_152 P, o_153 P, o_154 P, o_155 P, o_156 P, o_157 P, o_158 P, o_159 P, o_160 P, o_161 P, o_162 P, o_163 P, o_164 P, o_165 P, o_166 P, o_167 P, o_168 P, o_169 P, o_170 P, o_171 P, o_172 P, o_173 P, o_174 P, o_175 P, o_176 P, o_177 P, o_178 P, o_179 P, o_180 P, o_181 P, o_182 P, o_183 P, o_184 P, o_185 P, o_186 P, o_187 P, o_188 P, o_189 P, o_190 P, o_191 P, o_192 P, o_193 P, o_194 P, o_195 P, o_196 P, o_197 P, o_198 P, o_199 P, o_200 P, o_201 P, o_202 P, o_203 P, o_204 P, o_205 P, o_206 P, o_207 P, o_208 P, o_209 P, o_210 P, o_211 P, o_212 P, o_213 P, o_214 P, o_215 P, o_216 P, o_217 P, o_218 P, o_219 P, o_220 P, o_221 P, o_222 P, o_225 P, o_226 P, o_227 P, o_228 P, o_229 P, o_230 P, o_231 P, o_232 P, o_233 P, o_234 P, o_235 P, o_236 P, o_237 P, o_238 P, o_242 P, o_243 P, o_244 P, o_250 P, o_251 P, o_252 P, o_253 P, o_254 P, o_255 P, o_256 P, o_257 P, o_258 P, o_259 P, o_260 P, o_261 P, o_262 P, o_263 P, o_264 P, o_265 P, o_266 P, o_267 P, o_268 P, o_269 P, o_270 P, o_271 P, o_272 P, o_273 P, o_274 P, o_275 P, o_276 P, o_277 P, o_278 P, o_279 P, o_280 P, o_281 P, o_282 P, o_283 P, o_284 P, o_285 P, o_286 P, o_287 P, o_288 P, o_289 P, o_290 P, o_291 P, o_292 P, o_293 P, o_294 P, o_295 P, o_296 P, o_297 P, o_298 P, o_299 P, o_300 P, o_301 P, o_302 P, o_303 P]⟩, {}⟩
end Mine
namespace Mine
open PySem PySem.W PyProof.Rows PySem.Calls

noncomputable abbrev bodyP : List Stmt := behindTheImports prg
noncomputable def envM : Env := { scope := prg.main.scope, locals := mainNs, globals := mainNs, cells := [], code := .ref 13, frame := some 14 }
noncomputable abbrev codeM : Code := .body bodyP envM
noncomputable abbrev posZ : Pos := ⟨0, 0, 0, 0⟩
noncomputable abbrev annM : Option Value := some (.ref 6)
noncomputable def stsA : List Stmt := bodyP.take 59
noncomputable def stsB : List Stmt := (bodyP.drop 59).take 1
noncomputable def stsC : List Stmt := bodyP.drop 60
noncomputable def sT (t : Params → BT) (n k : Nat) (w : World) (os : OsState) : SharedT := { tree := t w.params, n := n, life := {}, gens := #[], drawn := {}, toks := k, os := os }

theorem quickT {w : World} {k n : Nat} {S : SharedT} {th : Thread} {r : Flow × SharedT × Code × Pos} (h : Fast.tw10110043849684766642 Fast.tw14364793385576792824 prg w 11 annM k n S th = some r) : segRunT treeTable prg w 11 annM k n S th = some r := by
  rw [Fast.te10110043849684766642, Fast.te14364793385576792824]
  exact h
set_option maxHeartbeats 0 in
theorem headA (w : World) (os : OsState) : Fast.tw10110043849684766642 Fast.tw14364793385576792824 prg w 11 annM 1 1577 (sT tree_47 15 187 w os) (piecesOf stsA envM codeM posZ [topFrame posZ]) = some (.next, sT tree_239 197 522 w os, codeM, ⟨167, 0, 167, 9⟩) := by kernel_rfl
set_option maxHeartbeats 0 in
theorem headC (w : World) (os : OsState) : Fast.tw10110043849684766642 Fast.tw14364793385576792824 prg w 11 annM 1 284 (sT tree_244 200 619 w os) (piecesOf stsC envM codeM ⟨168, 0, 168, 17⟩ [topFrame posZ]) = some (.next, sT tree_303 254 721 w os, codeM, ⟨237, 0, 261, 112⟩) := by kernel_rfl
noncomputable def rowW (w : World) (b : Bool) : World := w.withFollow "special-get-raises" b
set_option maxHeartbeats 0 in
theorem headB0 (w : World) (os : OsState) : Fast.tw10110043849684766642 Fast.tw14364793385576792824 prg (rowW w false) 11 annM 1 979 (sT tree_239 197 522 (rowW w false) os) (piecesOf stsB envM codeM ⟨167, 0, 167, 9⟩ [topFrame posZ]) = some (.next, sT tree_244 200 619 (rowW w false) os, codeM, ⟨168, 0, 168, 17⟩) := by kernel_rfl
set_option maxHeartbeats 0 in
theorem headB1 (w : World) (os : OsState) : Fast.tw10110043849684766642 Fast.tw14364793385576792824 prg (rowW w true) 11 annM 1 979 (sT tree_239 197 522 (rowW w true) os) (piecesOf stsB envM codeM ⟨167, 0, 167, 9⟩ [topFrame posZ]) = some (.next, sT tree_244 200 619 (rowW w true) os, codeM, ⟨168, 0, 168, 17⟩) := by kernel_rfl
end Mine
namespace Mine
open PySem PySem.W PyProof.Rows PySem.Calls

noncomputable abbrev posA : Pos := ⟨167, 0, 167, 9⟩
noncomputable abbrev posB : Pos := ⟨168, 0, 168, 17⟩
noncomputable abbrev posC : Pos := ⟨237, 0, 261, 112⟩
noncomputable abbrev boot0 (w : World) (os : OsState) : Shared := ⟨boot_heap w.params, #[], boot_drawn, boot_toks, os⟩
noncomputable abbrev endS (w : World) (os : OsState) : Shared := ⟨heap_304 w.params, #[], {}, 721, os⟩
set_option maxHeartbeats 0 in
theorem headPre (w : World) (os : OsState) : Fast.tw15667345088766844465 Fast.tw14364793385576792824 prg w 11 annM 12 (boot0 w os) (topStub prg) = some (⟨heap_46 w.params, #[], {}, 187, os⟩, ⟨Fast.tw11892475500146522536 Fast.tw14364793385576792824 codeM, codeM, posZ, [topFrame posZ]⟩) := by kernel_rfl
set_option maxHeartbeats 0 in
theorem headBlock (w : World) (os : OsState) : Fast.tw14374325043358763698 Fast.tw14364793385576792824 prg w 11 annM 1 1 ⟨heap_46 w.params, #[], {}, 187, os⟩ (blockOf bodyP envM codeM posZ [topFrame posZ]) = some (.next, (sT tree_47 15 187 w os).abs, codeM, posZ) := by kernel_rfl
set_option maxHeartbeats 0 in
theorem headFin (w : World) (os : OsState) : Fast.tw14082659384304107361 Fast.tw14364793385576792824 prg w 11 annM 2 (sT tree_303 254 721 w os).abs (restOf [] envM codeM posC [topFrame posZ]) = some (endS w os) := by kernel_rfl
theorem headB (w : World) : ∀ os, segRunT treeTable prg w 11 annM 1 979 (sT tree_239 197 522 w os) (piecesOf stsB envM codeM posA [topFrame posZ]) = some (.next, sT tree_244 200 619 w os, codeM, posB) :=
  byRow2 "special-get-raises" (P := fun w => ∀ os, segRunT treeTable prg w 11 annM 1 979 (sT tree_239 197 522 w os) (piecesOf stsB envM codeM posA [topFrame posZ]) = some (.next, sT tree_244 200 619 w os, codeM, posB)) (fun w os => quickT (headB0 w os)) (fun w os => quickT (headB1 w os)) w
theorem body_cut : bodyP = stsA ++ (stsB ++ (stsC ++ [])) := by kernel_rfl
theorem runTop (w : World) (os : OsState) : topRun treeTable prg w 11 annM (12 + (1 + (1577 + (979 + (284 + 2))))) (boot0 w os) (topStub prg) = some (endS w os) := by
  refine go_top (s' := ⟨heap_46 w.params, #[], {}, 187, os⟩) (t' := ⟨denote treeTable codeM, codeM, posZ, [topFrame posZ]⟩) ?_ (piece_block (s' := (sT tree_47 15 187 w os).abs) (p' := posZ) ?_ ?_)
  · rw [Fast.te15667345088766844465, Fast.te11892475500146522536, Fast.te14364793385576792824]
    exact headPre w os
  · rw [Fast.te14374325043358763698, Fast.te14364793385576792824]
    exact headBlock w os
  · refine (congrArg (fun b => topRun treeTable prg w 11 annM (1577 + (979 + (284 + 2))) (sT tree_47 15 187 w os).abs (restOf b envM codeM posZ [topFrame posZ])) body_cut).trans ?_
    refine piece_app (segRun_of (quickT (headA w os))) (piece_app (segRun_of (headB w os)) (piece_app (segRun_of (quickT (headC w os))) ?_))
    rw [Fast.te14082659384304107361, Fast.te14364793385576792824]
    exact headFin w os
end Mine
namespace Mine
open PySem PySem.W PyProof.Rows PySem.Calls

noncomputable def headK : Params → Frag := fun P => [(0, boot_o_0 P), (1, boot_o_1 P), (2, boot_o_2 P), (3, o_248 P), (4, boot_o_4 P), (5, boot_o_5 P), (6, boot_o_6 P), (7, boot_o_7 P), (8, boot_o_8 P), (9, boot_o_9 P), (10, boot_o_10 P), (11, o_43 P), (12, o_249 P), (13, o_45 P), (14, o_46 P), (15, o_51 P), (16, o_52 P), (17, o_53 P), (18, o_54 P), (19, o_55 P), (20, o_56 P), (21, o_57 P), (29, o_67 P), (30, o_68 P), (31, o_69 P), (32, o_70 P), (33, o_71 P), (34, o_72 P), (35, o_73 P), (36, o_74 P), (37, o_75 P), (38, o_76 P), (39, o_77 P), (40, o_78 P), (41, o_79 P), (42, o_80 P), (43, o_81 P), (44, o_82 P), (45, o_83 P), (46, o_84 P), (47, o_85 P), (48, o_86 P), (49, o_87 P), (50, o_88 P), (51, o_89 P), (52, o_90 P), (53, o_91 P), (54, o_92 P), (55, o_93 P), (56, o_94 P), (57, o_95 P), (58, o_96 P), (59, o_97 P), (60, o_98 P), (61, o_99 P), (62, o_100 P), (63, o_101 P), (64, o_102 P), (65, o_103 P), (66, o_104 P), (67, o_105 P), (68, o_106 P), (69, o_107 P), (70, o_108 P), (71, o_109 P), (72, o_110 P), (73, o_111 P), (74, o_112 P), (75, o_113 P), (76, o_114 P), (77, o_115 P), (78, o_116 P), (79, o_117 P), (80, o_118 P), (81, o_119 P), (82, o_120 P), (83, o_121 P), (84, o_122 P), (85, o_123 P), (86, o_124 P), (87, o_125 P), (88, o_126 P), (89, o_127 P), (90, o_128 P), (91, o_129 P), (92, o_130 P), (93, o_131 P), (94, o_132 P), (95, o_133 P), (96, o_134 P), (99, o_139 P), (102, o_142 P), (107, o_147 P), (108, o_148 P), (109, o_149 P), (110, o_150 P), (111, o_151 P), (112, o_152 P), (113, o_153 P), (114, o_154 P), (115, o_155 P), (116, o_156 P), (117, o_157 P), (118, o_158 P), (119, o_159 P), (120, o_160 P), (121, o_161 P), (122, o_162 P), (123, o_163 P), (124, o_164 P), (125, o_165 P), (126, o_166 P), (127, o_167 P), (128, o_168 P), (129, o_169 P), (130, o_170 P), (131, o_171 P), (132, o_172 P), (133, o_173 P), (134, o_174 P), (135, o_175 P), (136, o_176 P), (137, o_177 P), (138, o_178 P), (139, o_179 P), (140, o_180 P), (141, o_181 P), (142, o_182 P), (143, o_183 P), (144, o_184 P), (145, o_185 P), (146, o_186 P), (147, o_187 P), (148, o_188 P), (149, o_189 P), (150, o_190 P), (151, o_191 P), (152, o_192 P), (153, o_193 P), (154, o_194 P), (155, o_195 P), (156, o_196 P), (157, o_197 P), (158, o_198 P), (159, o_199 P), (160, o_200 P), (161, o_201 P), (162, o_202 P), (163, o_203 P), (164, o_204 P), (165, o_205 P), (166, o_206 P), (167, o_207 P), (168, o_208 P), (169, o_209 P), (170, o_210 P), (171, o_211 P), (172, o_212 P), (173, o_213 P), (174, o_214 P), (175, o_215 P), (176, o_216 P), (177, o_217 P), (178, o_218 P), (179, o_219 P), (180, o_220 P), (183, o_225 P), (184, o_226 P), (185, o_227 P), (186, o_228 P), (187, o_229 P), (188, o_230 P), (189, o_231 P), (190, o_232 P), (191, o_233 P), (192, o_234 P), (193, o_235 P), (194, o_236 P), (195, o_237 P), (196, o_238 P), (197, o_242 P), (200, o_250 P), (201, o_251 P), (202, o_252 P), (203, o_253 P), (204, o_254 P), (205, o_255 P), (206, o_256 P), (207, o_257 P), (208, o_258 P), (209, o_259 P), (210, o_260 P), (211, o_261 P), (212, o_262 P), (213, o_263 P), (214, o_264 P), (215, o_265 P), (216, o_266 P), (217, o_267 P), (218, o_268 P), (219, o_269 P), (220, o_270 P), (221, o_271 P), (222, o_272 P), (223, o_273 P), (224, o_274 P), (225, o_275 P), (226, o_276 P), (227, o_277 P), (228, o_278 P), (229, o_279 P), (230, o_280 P), (231, o_281 P), (232, o_282 P), (233, o_283 P), (234, o_284 P), (235, o_285 P), (236, o_286 P), (237, o_287 P), (238, o_288 P), (239, o_289 P), (240, o_290 P), (241, o_291 P), (242, o_292 P), (243, o_293 P), (244, o_294 P), (245, o_295 P), (246, o_296 P), (247, o_297 P), (248, o_298 P), (249, o_299 P), (250, o_300 P), (251, o_301 P), (252, o_302 P), (253, o_303 P)]
noncomputable def headAs : List Addr := [0, 1, 2, 3, 4, 5, 6, 7, 8, 9, 10, 11, 12, 13, 14, 15, 16, 17, 18, 19, 20, 21, 29, 30, 31, 32, 33, 34, 35, 36, 37, 38, 39, 40, 41, 42, 43, 44, 45, 46, 47, 48, 49, 50, 51, 52, 53, 54, 55, 56, 57, 58, 59, 60, 61, 62, 63, 64, 65, 66, 67, 68, 69, 70, 71, 72, 73, 74, 75, 76, 77, 78, 79, 80, 81, 82, 83, 84, 85, 86, 87, 88, 89, 90, 91, 92, 93, 94, 95, 96, 99, 102, 107, 108, 109, 110, 111, 112, 113, 114, 115, 116, 117, 118, 119, 120, 121, 122, 123, 124, 125, 126, 127, 128, 129, 130, 131, 132, 133, 134, 135, 136, 137, 138, 139, 140, 141, 142, 143, 144, 145, 146, 147, 148, 149, 150, 151, 152, 153, 154, 155, 156, 157, 158, 159, 160, 161, 162, 163, 164, 165, 166, 167, 168, 169, 170, 171, 172, 173, 174, 175, 176, 177, 178, 179, 180, 183, 184, 185, 186, 187, 188, 189, 190, 191, 192, 193, 194, 195, 196, 197, 200, 201, 202, 203, 204, 205, 206, 207, 208, 209, 210, 211, 212, 213, 214, 215, 216, 217, 218, 219, 220, 221, 222, 223, 224, 225, 226, 227, 228, 229, 230, 231, 232, 233, 234, 235, 236, 237, 238, 239, 240, 241, 242, 243, 244, 245, 246, 247, 248, 249, 250, 251, 252, 253]
theorem headAs_ok (P : Params) : headAs = (headK P).map (·.1) := by kernel_rfl
noncomputable def headH : Hook := kHook headK headAs headAs_ok
noncomputable def viewB : List Stmt := let b := prg.main.body; b.take 1 ++ ((b.drop 2).take 4 ++ ((b.drop 7).take 2 ++ ((b.drop 10).take 51 ++ b.drop 62)))
noncomputable def view : Program := { prg with main := { prg.main with body := viewB } }
noncomputable abbrev looseL : List Str := ["_Accumulator", "EXACT_TOKEN_TYPES"]
noncomputable abbrev rowR : OpenRow := OpenLaw.row PySem.Challenge.rw_yh0026_01
set_option maxHeartbeats 0 in
theorem said_ok : OpenLaw.wellSaid PySem.Challenge.rw_yh0026_01 = true := by
  refine and_i (and_i (and_i (and_i (and_i (and_i (and_i (and_i (and_i (and_i (and_i (and_i (and_i (and_i (and_i (and_i (and_i (and_i (and_i (and_i (and_i (and_i (and_i (and_i (and_i (and_i (and_i (and_i (and_i (and_i (and_i (and_i (and_i (and_i (and_i (and_i (and_i (and_i ?_ ?_) ?_) ?_) ?_) ?_) ?_) ?_) ?_) ?_) ?_) ?_) ?_) ?_) ?_) ?_) ?_) ?_) ?_) ?_) ?_) ?_) ?_) ?_) ?_) ?_) ?_) ?_) ?_) ?_) ?_) ?_) ?_) ?_) ?_) ?_) ?_) ?_) ?_ <;> decide +kernel
set_option maxHeartbeats 0 in
theorem look1 (w : World) (os : OsState) : (staticsOk (importedModules prg.main.body) (boot_heap w.params) (heap_304 w.params) && namesBound prg (heap_304 w.params) && gensDone (endS w os) && laidKept (boot_heap w.params) (heap_304 w.params)) = true := by kernel_rfl
set_option maxHeartbeats 0 in
theorem look3 (w : World) (os : OsState) : headH.obs (endS w os) = headH.val w := by kernel_rfl
end Mine
namespace Mine
open PySem PySem.W PyProof.Rows PySem.Calls
noncomputable def headX (s : Shared) : Bool := xlAt view [] s && recOk (RowW.records rowR.toRowW) s
noncomputable abbrev seenS (w : World) (os : OsState) := openSeen view looseL (importedModules prg.main.body) headX true (endS w os)
noncomputable abbrev goodS := openGood view looseL
set_option maxHeartbeats 0 in
theorem look2a (w : World) (os : OsState) : (seenS w os).1 = expectedOf view := by kernel_rfl
set_option maxHeartbeats 0 in
theorem look2b (w : World) (os : OsState) : (seenS w os).2.1 = bltViewBooted := by kernel_rfl
set_option maxHeartbeats 0 in
theorem look2c (w : World) (os : OsState) : (seenS w os).2.2.1 = true := by
  unfold seenS openSeen
  refine and_i (and_i (and_i (and_i (and_i (and_i ?_ ?_) ?_) ?_) ?_) ?_) ?_ <;> as_aux_lemma => kernel_rfl
set_option maxHeartbeats 0 in
theorem look2d (w : World) (os : OsState) : (seenS w os).2.2.2.1 = true := by kernel_rfl
set_option maxHeartbeats 0 in
theorem look2e (w : World) (os : OsState) : (seenS w os).2.2.2.2.1 = pinGoodD (drecsOf view) := by kernel_rfl
set_option maxHeartbeats 0 in
theorem look2f (w : World) (os : OsState) : (seenS w os).2.2.2.2.2.1 = plainGoodE view (looseW view looseL) := by kernel_rfl
set_option maxHeartbeats 0 in
theorem look2g (w : World) (os : OsState) : (seenS w os).2.2.2.2.2.2.1 = plainGoodD view looseL := by kernel_rfl
set_option maxHeartbeats 0 in
theorem look2h (w : World) (os : OsState) : (seenS w os).2.2.2.2.2.2.2.1 = wideGood view := by kernel_rfl
set_option maxHeartbeats 0 in
theorem look2i (w : World) (os : OsState) : (seenS w os).2.2.2.2.2.2.2.2 = clsGoodW view looseL := by kernel_rfl
set_option maxHeartbeats 0 in
theorem look2 (w : World) (os : OsState) : openSeen view looseL (importedModules prg.main.body) headX true (endS w os) = openGood view looseL :=
  Prod.ext (look2a w os) (Prod.ext (look2b w os) (Prod.ext (look2c w os) (Prod.ext (look2d w os) (Prod.ext (look2e w os) (Prod.ext (look2f w os) (Prod.ext (look2g w os) (Prod.ext (look2h w os) (look2i w os))))))))
end Mine
namespace Mine
open PySem PySem.W PyProof.Rows PySem.Calls
noncomputable abbrev headN : Nat := 5792
theorem head_size (w : World) : ((boot_heap w.params).isNs mainGlobals && (#[] : Array GenState).size == 0, (boot_heap w.params).objs.size, (boot_heap w.params).nsMap mainGlobals "__annotations__") = (true, 11, annM) := by kernel_rfl
theorem head_open : opening prg = plainProg prg.main.scope.names := by kernel_rfl
theorem head_fence (s : Shared) : fenceModules? prg s = some s := by kernel_rfl
theorem headLeft : LeftO rowR.prog view looseL headX headH.obs headH.val headN :=
  LeftO.of_pieces (p := prg) (H₀ := boot_heap) (H₁ := heap_304) (gs₀ := #[]) (gs₁ := #[]) (d₀ := boot_drawn) (d₁ := {}) (k₀ := boot_toks) (k₁ := 721) (m₀ := 11) (ann := annM) (M := 12 + (1 + (1577 + (979 + (284 + 2))))) (boot_open head_open (by decide) head_fence) head_size runTop (by decide)
    fun w => funext fun os => looks_pair (look1 w os) (looks_pair (look2 w os) (look3 w os))
end Mine
open PySem PySem.W PyProof.Rows
set_option pp.deepTerms false
set_option maxHeartbeats 0 in
theorem PySem.Challenge.cw_yh0026_01_holds : PySem.Challenge.rw_yh0026_01.Holds := by
  refine holds_law Mine.said_ok fun said => ?_
  refine holds_open (q := Mine.view) (loose := Mine.looseL) (Xt := Mine.headX) (XP := XL Mine.view []) (Yf := Mine.headH.obs) (Ya := Mine.headH.val) (YP := Mine.headH.says) (N := Mine.headN) Mine.headLeft Mine.headH.of Mine.headH.keeps (fun s e => xl_of s (Bool.and_eq_true_iff.mp e).1) XL.keeps (by rfl) (by rfl) (by rfl) (fun s e => recFacts_of (Bool.and_eq_true_iff.mp e).2) (by rfl) (by first | assumption | decide +kernel) (by decide +kernel) ⟨rfl, rfl, rfl, rfl, rfl, by decide +kernel⟩ ?hw ?hc
  case hw => w_witness2
  k_fill
  intro w s₀ s₁ mg mb G Y fa o pm cd doc dV kV ho hd hcd hD hmg hg args vals as hpre hlay hrd hwl hlo
  have KX := kIn_of Y
  refine Ground.open G ?_
  intro T B D TE TW
  wrow_args hpre hlay hrd hwl hlo
  refine Mine.law_final KX (topRead_of T) ?fA ?fB ?t1 ?t2 hg (by assumption) (by assumption) (by assumption) (by omega) hmg ?hEndZ
  case fA =>
    constructor
    all_goals first
      | kernel_rfl
      | (intros; kernel_rfl)
  case fB =>
    constructor
    all_goals first
      | kernel_rfl
      | (intros; kernel_rfl)
  case t1 => kernel_rfl
  case t2 => kernel_rfl
  case hEndZ => exact fun s' h1 h2 h3 => Mine.law_good h1 h2 h3
