import PyProof.Rows.All
import Wide.All
import OpenK.AllK
import Wide.FinOn
import PySem.Challenge.RW_hv0001_01
set_option Elab.async false
set_option linter.all false
set_option maxRecDepth 100000
set_option maxRecDepth 100000
namespace Mine
open PySem

/-- plain data; a tuple (and a list's items) is a chain of cons that ends in nil; ints are 0 or more -/
inductive DV where
  | unb | non
  | bool (b : Bool)
  | int (i : Nat)
  | str (s : Nat)
  | loc (n : Nat)
  | rng (a n : Nat)
  | ditems (n : Nat)
  | dvals (n : Nat)
  | nil
  | cons (h t : DV)

inductive DObj where
  | list (d : DV)
  | dict (es : List (Nat × Nat))

abbrev Sl := List DV
abbrev Sto := List DObj
abbrev K1 := DV → Sto → Bool
inductive RV where
  | val (d : DV)
  | list (d : DV)
  | dict (es : List (Nat × Nat))
abbrev FSem := Nat → DV → Sto → (RV → Sto → Bool) → Bool
abbrev GE := FSem → Sl → Sl → Sto → K1 → Bool
abbrev GB := FSem → Sl → Sl → Sto → (Sto → Bool) → (Sto → Bool) → Bool
abbrev GT := DV → Sl → Sl → (Sl → Sl → Bool) → Bool
abbrev GS := FSem → Sl → Sto → (Sl → Sto → Bool) → (DV → Sto → Bool) → Bool

-- forcing
noncomputable def frcL {α : Type} (l : List α) : (List α → Bool) → Bool :=
  List.rec (motive := fun _ => (List α → Bool) → Bool) (fun k => k []) (fun x _ ih k => ih fun r => k (x :: r)) l
noncomputable def frcN (n : Nat) (k : Nat → Bool) : Bool := Nat.rec (motive := fun _ => Bool) (k 0) (fun m _ => k (Nat.succ m)) n
noncomputable def frcC (d : DV) : (DV → Bool) → Bool :=
  DV.rec (motive := fun _ => (DV → Bool) → Bool) (fun k => k .unb) (fun k => k .non) (fun b k => k (.bool b)) (fun n k => k (.int n)) (fun n k => k (.str n)) (fun n k => k (.loc n))
    (fun a b k => k (.rng a b)) (fun n k => k (.ditems n)) (fun n k => k (.dvals n)) (fun k => k .nil) (fun h _ _ ih k => ih fun t => k (.cons h t)) d

noncomputable def asInt (d : DV) (k : Nat → Bool) : Bool :=
  DV.rec (motive := fun _ => Bool) false false (fun _ => false) (fun n => k n) (fun _ => false) (fun _ => false) (fun _ _ => false) (fun _ => false) (fun _ => false) false (fun _ _ _ _ => false) d
noncomputable def asLoc (d : DV) (k : Nat → Bool) : Bool :=
  DV.rec (motive := fun _ => Bool) false false (fun _ => false) (fun _ => false) (fun _ => false) (fun n => k n) (fun _ _ => false) (fun _ => false) (fun _ => false) false (fun _ _ _ _ => false) d
noncomputable def asCons (d : DV) (k : DV → DV → Bool) : Bool :=
  DV.rec (motive := fun _ => Bool) false false (fun _ => false) (fun _ => false) (fun _ => false) (fun _ => false) (fun _ _ => false) (fun _ => false) (fun _ => false) false (fun h t _ _ => k h t) d
/-- a chain: kn at its end, kc at a cons -/
noncomputable def asCh (d : DV) (kn : Bool) (kc : DV → DV → Bool) : Bool :=
  DV.rec (motive := fun _ => Bool) false false (fun _ => false) (fun _ => false) (fun _ => false) (fun _ => false) (fun _ _ => false) (fun _ => false) (fun _ => false) kn (fun h t _ _ => kc h t) d
noncomputable def ifB (b : Bool) (x y : Bool) : Bool := Bool.rec (motive := fun _ => Bool) y x b

/-- == of ground data: x where equal, y where not -/
noncomputable def eqD (a : DV) : DV → Bool → Bool → Bool :=
  DV.rec (motive := fun _ => DV → Bool → Bool → Bool) (fun _ _ _ => false) (fun _ _ _ => false) (fun _ _ _ _ => false)
    (fun n b x y => asInt b fun m => ifB (Nat.beq n m) x y)
    (fun n b x y => DV.rec (motive := fun _ => Bool) false false (fun _ => false) (fun _ => false) (fun m => ifB (Nat.beq n m) x y) (fun _ => false) (fun _ _ => false) (fun _ => false) (fun _ => false) false (fun _ _ _ _ => false) b)
    (fun _ _ _ _ => false) (fun _ _ _ _ _ => false) (fun _ _ _ _ => false) (fun _ _ _ _ => false)
    (fun b x y => asCh b x fun _ _ => y)
    (fun _ _ ih1 ih2 b x y => asCh b y fun h t => ih1 h (ih2 t x y) y) a
/-- tuples by the first pair that differs -/
noncomputable def ltD (a : DV) : DV → Bool → Bool → Bool :=
  DV.rec (motive := fun _ => DV → Bool → Bool → Bool) (fun _ _ _ => false) (fun _ _ _ => false) (fun _ _ _ _ => false)
    (fun n b x y => asInt b fun m => ifB (Nat.blt n m) x y)
    (fun _ _ _ _ => false)
    (fun _ _ _ _ => false) (fun _ _ _ _ _ => false) (fun _ _ _ _ => false) (fun _ _ _ _ => false)
    (fun b x y => asCh b y fun _ _ => x)
    (fun h₀ _ ih1 ih2 b x y => asCh b y fun h t => eqD h₀ h (ih2 t x y) (ih1 h x y)) a
noncomputable def inD (d : DV) (l : DV) (x y : Bool) : Bool :=
  DV.rec (motive := fun _ => Bool) false false (fun _ => false) (fun _ => false) (fun _ => false) (fun _ => false) (fun _ _ => false) (fun _ => false) (fun _ => false) y
    (fun h _ _ ih => eqD h d x ih) l
noncomputable def appC (a b : DV) (k : DV → Bool) : Bool :=
  DV.rec (motive := fun _ => (DV → Bool) → Bool) (fun _ => false) (fun _ => false) (fun _ _ => false) (fun _ _ => false) (fun _ _ => false) (fun _ _ => false)
    (fun _ _ _ => false) (fun _ _ => false) (fun _ _ => false) (fun k => k b) (fun h _ _ ih k => ih fun t => k (.cons h t)) a k
/-- ints, strs and tuples of them, of bounded size -/
noncomputable def grB (d : DV) (k : Bool) (n : Nat) : Bool :=
  DV.rec (motive := fun _ => Nat → Bool → Bool) (fun _ _ => false) (fun _ _ => false) (fun _ _ _ => false) (fun _ _ k => k) (fun i _ k => ifB (Nat.ble i 1) k false) (fun _ _ _ => false)
    (fun _ _ _ _ => false) (fun _ _ _ => false) (fun _ _ _ => false) (fun _ k => k) (fun _ _ ih1 ih2 n k => Nat.rec (motive := fun _ => Bool) false (fun m _ => ih1 m (ih2 m k)) n) d n k
noncomputable def ck (d : DV) (k : Bool) : Bool := grB d k 60
noncomputable def lenC (d : DV) (k : Nat → Bool) : Bool :=
  DV.rec (motive := fun _ => (Nat → Bool) → Bool) (fun _ => false) (fun _ => false) (fun _ _ => false) (fun _ _ => false) (fun _ _ => false) (fun _ _ => false)
    (fun _ _ _ => false) (fun _ _ => false) (fun _ _ => false) (fun k => k 0) (fun _ _ _ ih k => ih fun n => frcN (Nat.add n 1) k) d k
noncomputable def nthC (d : DV) : Nat → (DV → Bool) → Bool → Bool :=
  DV.rec (motive := fun _ => Nat → (DV → Bool) → Bool → Bool) (fun _ _ _ => false) (fun _ _ _ => false) (fun _ _ _ _ => false) (fun _ _ _ _ => false) (fun _ _ _ _ => false) (fun _ _ _ _ => false)
    (fun _ _ _ _ _ => false) (fun _ _ _ _ => false) (fun _ _ _ _ => false) (fun _ _ ke => ke)
    (fun h _ _ ih n k ke => Nat.rec (motive := fun _ => Bool) (k h) (fun m _ => ih m k ke) n) d
noncomputable def insC (x : DV) (d : DV) : Nat → (DV → Bool) → Bool :=
  DV.rec (motive := fun _ => Nat → (DV → Bool) → Bool) (fun _ _ => false) (fun _ _ => false) (fun _ _ _ => false) (fun _ _ _ => false) (fun _ _ _ => false) (fun _ _ _ => false)
    (fun _ _ _ _ => false) (fun _ _ _ => false) (fun _ _ _ => false) (fun n k => Nat.rec (motive := fun _ => Bool) (k (.cons x .nil)) (fun _ _ => false) n)
    (fun h t _ ih n k => Nat.rec (motive := fun _ => Bool) (k (.cons x (.cons h t))) (fun m _ => ih m fun r => k (.cons h r)) n) d
noncomputable def dropC (n : Nat) (d : DV) (k : DV → Bool) : Bool :=
  Nat.rec (motive := fun _ => DV → Bool) k (fun _ ih d => asCh d false fun _ t => ih t) n d
/-- the sort's questions, answered by the data -/
noncomputable def runK (t : PySem.W.KasT (Array Nat)) (cmp : Nat → Nat → Bool → Bool → Bool) (k : Array Nat → Bool) : Bool :=
  PySem.W.KasT.rec (motive := fun _ => Bool) k (fun i j _ ih => cmp i j (ih true) (ih false)) t
noncomputable def pickC (l : DV) (ps : List Nat) : (DV → Bool) → Bool :=
  List.rec (motive := fun _ => (DV → Bool) → Bool) (fun k => k .nil) (fun i _ ih k => nthC l i (fun d => ih fun r => k (.cons d r)) false) ps
noncomputable def firstsI (l : DV) (k : Bool) : Bool :=
  DV.rec (motive := fun _ => Bool) false false (fun _ => false) (fun _ => false) (fun _ => false) (fun _ => false) (fun _ _ => false) (fun _ => false) (fun _ => false) k (fun h _ _ ih => asCons h fun a _ => asInt a fun _ => ih) l
noncomputable def firstsT (l : DV) (k : Bool) : Bool :=
  DV.rec (motive := fun _ => Bool) false false (fun _ => false) (fun _ => false) (fun _ => false) (fun _ => false) (fun _ _ => false) (fun _ => false) (fun _ => false) k (fun h _ _ ih => asCons h fun a _ => asCons a fun _ _ => ih) l
noncomputable def cmpC (l : DV) (i j : Nat) (x y : Bool) : Bool := nthC l i (fun a => nthC l j (fun b => ltD a b x y) false) false
noncomputable def sortGo (l : DV) (n : Nat) (k : DV → Bool) : Bool := runK (PySem.W.kas_sort n) (cmpC l) fun p => pickC l p.toList k
noncomputable def sortC (l : DV) (k : DV → Bool) : Bool := lenC l fun n => ifB (Nat.blt n 2) (k l) (ifB (Nat.blt n 64) (asCons l fun h _ => asCons h fun a _ =>
  DV.rec (motive := fun _ => Bool) false false (fun _ => false) (fun _ => firstsI l (sortGo l n k)) (fun _ => false) (fun _ => false) (fun _ _ => false) (fun _ => false) (fun _ => false) false (fun _ _ _ _ => firstsT l (sortGo l n k)) a) false)
noncomputable def maxC (m : Nat) (l : DV) (k : Nat → Bool) : Bool :=
  DV.rec (motive := fun _ => Nat → Bool) (fun _ => false) (fun _ => false) (fun _ _ => false) (fun _ _ => false) (fun _ _ => false) (fun _ _ => false)
    (fun _ _ _ => false) (fun _ _ => false) (fun _ _ => false) (fun m => k m) (fun h _ _ ih m => asInt h fun i => ifB (Nat.blt m i) (ih i) (ih m)) l m

noncomputable def nthD (l : List DV) : Nat → DV :=
  List.rec (motive := fun _ => Nat → DV) (fun _ => .unb) (fun x _ ih n => Nat.rec (motive := fun _ => DV) x (fun m _ => ih m) n) l
noncomputable def setD (l : List DV) : Nat → DV → (List DV → Bool) → Bool :=
  List.rec (motive := fun _ => Nat → DV → (List DV → Bool) → Bool) (fun _ _ k => k []) (fun x r ih n d k => Nat.rec (motive := fun _ => Bool) (k (d :: r)) (fun m _ => ih m d fun r => k (x :: r)) n) l
noncomputable def nthO (l : Sto) : Nat → (DObj → Bool) → Bool :=
  List.rec (motive := fun _ => Nat → (DObj → Bool) → Bool) (fun _ _ => false) (fun x _ ih n k => Nat.rec (motive := fun _ => Bool) (k x) (fun m _ => ih m k) n) l
noncomputable def setO (l : Sto) : Nat → DObj → (Sto → Bool) → Bool :=
  List.rec (motive := fun _ => Nat → DObj → (Sto → Bool) → Bool) (fun _ _ k => k []) (fun x r ih n d k => Nat.rec (motive := fun _ => Bool) (k (d :: r)) (fun m _ => ih m d fun r => k (x :: r)) n) l
noncomputable def addO (l : Sto) (o : DObj) (k : Nat → Sto → Bool) : Bool :=
  List.rec (motive := fun _ => Nat → (Sto → Bool) → Bool) (fun n k' => k' [o]) (fun x _ ih n k => ih n fun r => k (x :: r)) l 0 fun σ => frcN (List.rec (motive := fun _ => Nat) 0 (fun _ _ n => Nat.add n 1) l) fun n => k n σ
noncomputable def takeO (n : Nat) (l : Sto) (k : Sto → Bool) : Bool :=
  Nat.rec (motive := fun _ => Sto → (Sto → Bool) → Bool) (fun _ k => k []) (fun _ ih l k => List.rec (motive := fun _ => Bool) (k []) (fun x r _ => ih r fun r => k (x :: r)) l) n l k
noncomputable def lenO (l : Sto) : Nat := List.rec (motive := fun _ => Nat) 0 (fun _ _ n => Nat.add n 1) l
noncomputable def obL (o : DObj) (k : DV → Bool) : Bool := DObj.rec (motive := fun _ => Bool) k (fun _ => false) o
noncomputable def obD (o : DObj) (k : List (Nat × Nat) → Bool) : Bool := DObj.rec (motive := fun _ => Bool) (fun _ => false) k o
noncomputable def listAt (σ : Sto) (d : DV) (k : DV → Bool) : Bool := asLoc d fun n => nthO σ n fun o => obL o k
/-- a tuple's items or a list's -/
noncomputable def seqOf (σ : Sto) (d : DV) (k : DV → Bool) : Bool :=
  DV.rec (motive := fun _ => Bool) false false (fun _ => false) (fun _ => false) (fun _ => false) (fun n => nthO σ n fun o => obL o k) (fun _ _ => false) (fun _ => false) (fun _ => false) (k .nil) (fun h t _ _ => k (.cons h t)) d

-- dicts
noncomputable def lookE (l : List (Nat × Nat)) (i : Nat) (k : Nat → Bool) (ke : Bool) : Bool :=
  List.rec (motive := fun _ => Bool) ke (fun p _ ih => ifB (Nat.beq p.1 i) (k p.2) ih) l
noncomputable def putE (l : List (Nat × Nat)) (i v : Nat) : (List (Nat × Nat) → Bool) → Bool :=
  List.rec (motive := fun _ => (List (Nat × Nat) → Bool) → Bool) (fun k => k [(i, v)]) (fun p r ih k => ifB (Nat.beq p.1 i) (k ((p.1, v) :: r)) (ih fun r => k (p :: r))) l
noncomputable def nthE (l : List (Nat × Nat)) : Nat → (Nat → Nat → Bool) → Bool → Bool :=
  List.rec (motive := fun _ => Nat → (Nat → Nat → Bool) → Bool → Bool) (fun _ _ ke => ke) (fun p _ ih n k ke => Nat.rec (motive := fun _ => Bool) (k p.1 p.2) (fun m _ => ih m k ke) n) l
noncomputable def ckE (l : List (Nat × Nat)) (k : Bool) : Bool := ifB (Nat.ble (List.rec (motive := fun _ => Nat) 0 (fun _ _ n => Nat.add n 1) l) 60) k false
def keyD (k : Nat) : DV := .cons (.str 0) (.cons (.int k) (.cons (.str 1) .nil))
noncomputable def keyOf (d : DV) (k : Nat → Bool) : Bool :=
  asCons d fun a r => asCons r fun b r => asCons r fun c r => asInt b fun n => eqD (.cons a (.cons c r)) (.cons (.str 0) (.cons (.str 1) .nil)) (k n) false

-- expressions
noncomputable def eCon (d : DV) : GE := fun _ _ _ σ k => k d σ
noncomputable def useD (d : DV) (k : DV → Bool) : Bool :=
  DV.rec (motive := fun _ => Bool) false (k .non) (fun b => k (.bool b)) (fun n => k (.int n)) (fun n => k (.str n)) (fun n => k (.loc n)) (fun a b => k (.rng a b)) (fun n => k (.ditems n)) (fun n => k (.dvals n)) (k .nil) (fun h t _ _ => k (.cons h t)) d
noncomputable def eNmC (i : Nat) : GE := fun _ c _ σ k => useD (nthD c i) fun d => k d σ
noncomputable def eNmF (j : Nat) : GE := fun _ _ f σ k => useD (nthD f j) fun d => k d σ
noncomputable def esNil : GE := fun _ _ _ σ k => k .nil σ
noncomputable def esCons (g gs : GE) : GE := fun R c f σ k => g R c f σ fun d σ => gs R c f σ fun t σ => k (.cons d t) σ
noncomputable def eTrack (g : GE) : GE := fun R c f σ k => g R c f σ fun d σ => ck d <| addO σ (.list d) fun n σ => k (.loc n) σ
noncomputable def eDct0 : GE := fun _ _ _ σ k => addO σ (.dict []) fun n σ => k (.loc n) σ
noncomputable def eDct1 (a b : GE) : GE := fun R c f σ k => a R c f σ fun x σ => b R c f σ fun y σ => keyOf x fun i => asInt y fun v => addO σ (.dict [(i, v)]) fun n σ => k (.loc n) σ
noncomputable def chB (d : DV) (k : Bool) : Bool := asCh d k fun _ _ => k
noncomputable def addK (a b : DV) (k : DV → Bool) : Bool :=
  DV.rec (motive := fun _ => Bool) false false (fun _ => false) (fun n => asInt b fun m => frcN (Nat.add n m) fun z => k (.int z)) (fun _ => false) (fun _ => false) (fun _ _ => false) (fun _ => false) (fun _ => false)
    (chB b <| ck b <| k b) (fun h t _ _ => chB b <| appC (.cons h t) b fun d => ck d <| k d) a
noncomputable def eAdd (l r : GE) : GE := fun R c f σ k => l R c f σ fun a σ => r R c f σ fun b σ => addK a b fun d => k d σ
noncomputable def eSub (l r : GE) : GE := fun R c f σ k => l R c f σ fun a σ => r R c f σ fun b σ => asInt a fun n => asInt b fun m => ifB (Nat.ble m n) (frcN (Nat.sub n m) fun z => k (.int z) σ) false
noncomputable def eMul (l r : GE) : GE := fun R c f σ k => l R c f σ fun a σ => r R c f σ fun b σ => asInt a fun n => asInt b fun m => ifB (Nat.ble n 1000) (frcN (Nat.mul n m) fun z => k (.int z) σ) false
noncomputable def eDiv (l r : GE) : GE := fun R c f σ k => l R c f σ fun a σ => r R c f σ fun b σ => asInt a fun n => asInt b fun m => ifB (Nat.blt 0 m) (ifB (Nat.ble m 1000) (frcN (Nat.div n m) fun z => k (.int z) σ) false) false
noncomputable def eMod (l r : GE) : GE := fun R c f σ k => l R c f σ fun a σ => r R c f σ fun b σ => asInt a fun n => asInt b fun m => ifB (Nat.blt 0 m) (ifB (Nat.ble m 1000) (frcN (Nat.mod n m) fun z => k (.int z) σ) false) false
noncomputable def eIte (t : GB) (a b : GE) : GE := fun R c f σ k => t R c f σ (fun σ => a R c f σ k) (fun σ => b R c f σ k)
noncomputable def trackR (r : RV) (σ : Sto) (k : K1) : Bool :=
  RV.rec (motive := fun _ => Bool) (fun d => k d σ) (fun d => addO σ (.list d) fun n σ => k (.loc n) σ) (fun es => addO σ (.dict es) fun n σ => k (.loc n) σ) r
noncomputable def eCall (n : Nat) (gs : GE) : GE := fun R c f σ k => gs R c f σ fun ds σ => R n ds σ fun r σ => trackR r σ k
noncomputable def eTupL (g : GE) : GE := fun R c f σ k => g R c f σ fun d σ => ck d <| k d σ
noncomputable def eLenE (g : GE) : GE := fun R c f σ k => g R c f σ fun d σ => seqOf σ d fun l => ck l <| lenC l fun n => k (.int n) σ
noncomputable def eLenL (g : GE) : GE := fun R c f σ k => g R c f σ fun d σ => ck d <| lenC d fun n => k (.int n) σ
noncomputable def eMaxL (g : GE) : GE := fun R c f σ k => g R c f σ fun d σ => ck d <| asCons d fun h t => asInt h fun m => maxC m t fun n => k (.int n) σ
noncomputable def eMin (l r : GE) : GE := fun R c f σ k => l R c f σ fun a σ => r R c f σ fun b σ => asInt a fun n => asInt b fun m => ifB (Nat.blt m n) (k (.int m) σ) (k (.int n) σ)
noncomputable def eRng1 (g : GE) : GE := fun R c f σ k => g R c f σ fun d σ => asInt d fun n => ifB (Nat.ble n 1000) (k (.rng 0 n) σ) false
noncomputable def eRng2 (l r : GE) : GE := fun R c f σ k => l R c f σ fun a σ => r R c f σ fun b σ => asInt a fun n => asInt b fun m => ifB (Nat.ble n m) (ifB (Nat.ble m 1000) (frcN (Nat.sub m n) fun z => k (.rng n z) σ) false) false
noncomputable def eIsTup (g : GE) : GE := fun R c f σ k => g R c f σ fun d σ => asInt d fun _ => k (.bool false) σ
noncomputable def mAppend (o g : GE) : GE := fun R c f σ k => o R c f σ fun a σ => asLoc a fun n => nthO σ n fun ob => obL ob fun _ => g R c f σ fun d σ => nthO σ n fun ob => obL ob fun l => appC l (.cons d .nil) fun l => ck l <| setO σ n (.list l) fun σ => k .non σ
noncomputable def mInsert (o i g : GE) : GE := fun R c f σ k => o R c f σ fun a σ => asLoc a fun n => nthO σ n fun ob => obL ob fun _ => i R c f σ fun b σ => g R c f σ fun d σ => asInt b fun m => nthO σ n fun ob => obL ob fun l => insC d l m fun l => ck l <| setO σ n (.list l) fun σ => k .non σ
noncomputable def mGet2 (o i g : GE) : GE := fun R c f σ k => o R c f σ fun a σ => asLoc a fun n => nthO σ n fun ob => obD ob fun _ => i R c f σ fun b σ => g R c f σ fun d σ => keyOf b fun m => nthO σ n fun ob => obD ob fun es => asInt d fun z => lookE es m (fun v => k (.int v) σ) (k (.int z) σ)
noncomputable def mItems (o : GE) : GE := fun R c f σ k => o R c f σ fun a σ => asLoc a fun n => nthO σ n fun ob => obD ob fun _ => k (.ditems n) σ
noncomputable def mValues (o : GE) : GE := fun R c f σ k => o R c f σ fun a σ => asLoc a fun n => nthO σ n fun ob => obD ob fun _ => k (.dvals n) σ
noncomputable def eSubs (o i : GE) : GE := fun R c f σ k => o R c f σ fun a σ => i R c f σ fun b σ => asInt b fun n => ifB (Nat.blt n 1000) (seqOf σ a fun l => nthC l n (fun d => k d σ) false) false
noncomputable def eDead : GE := fun _ _ _ _ _ => false

-- lists that no name bears yet: their items
noncomputable def lSortE (g : GE) : GE := fun R c f σ k => g R c f σ fun d σ => seqOf σ d fun l => ck l <| sortC l fun l => k l σ
noncomputable def lSortL (g : GE) : GE := fun R c f σ k => g R c f σ fun d σ => ck d <| sortC d fun l => k l σ
noncomputable def lAddEL (l r : GE) : GE := fun R c f σ k => l R c f σ fun a σ => r R c f σ fun b σ => listAt σ a fun l => ck b <| appC l b fun d => k d σ
noncomputable def lAddLE (l r : GE) : GE := fun R c f σ k => l R c f σ fun a σ => r R c f σ fun b σ => listAt σ b fun l => ck a <| appC a l fun d => k d σ
noncomputable def lSlc (o i : GE) : GE := fun R c f σ k => o R c f σ fun a σ => i R c f σ fun b σ => asInt b fun n => listAt σ a fun l => dropC n l fun d => k d σ
noncomputable def lCall (n : Nat) (gs : GE) : GE := fun R c f σ k => gs R c f σ fun ds σ => R n ds σ fun r σ => RV.rec (motive := fun _ => Bool) (fun _ => false) (fun d => k d σ) (fun _ => false) r

-- tests
noncomputable def bEq (l r : GE) : GB := fun R c f σ kt kf => l R c f σ fun a σ => r R c f σ fun b σ => ck a <| ck b <| eqD a b (kt σ) (kf σ)
noncomputable def bNe (l r : GE) : GB := fun R c f σ kt kf => l R c f σ fun a σ => r R c f σ fun b σ => ck a <| ck b <| eqD a b (kf σ) (kt σ)
noncomputable def bLt (l r : GE) : GB := fun R c f σ kt kf => l R c f σ fun a σ => r R c f σ fun b σ => ck a <| ck b <| ltD a b (kt σ) (kf σ)
noncomputable def bGt (l r : GE) : GB := fun R c f σ kt kf => l R c f σ fun a σ => r R c f σ fun b σ => asInt a fun n => asInt b fun m => ifB (Nat.blt m n) (kt σ) (kf σ)
noncomputable def bEqEL (l r : GE) : GB := fun R c f σ kt kf => l R c f σ fun a σ => r R c f σ fun b σ => listAt σ a fun l => ck b <| eqD l b (kt σ) (kf σ)
noncomputable def bNeEL (l r : GE) : GB := fun R c f σ kt kf => l R c f σ fun a σ => r R c f σ fun b σ => listAt σ a fun l => ck b <| eqD l b (kf σ) (kt σ)
noncomputable def bIn (l r : GE) : GB := fun R c f σ kt kf => l R c f σ fun a σ => r R c f σ fun b σ =>
  DV.rec (motive := fun _ => Bool) false false (fun _ => false) (fun _ => false) (fun _ => false)
    (fun n => nthO σ n fun o => DObj.rec (motive := fun _ => Bool) (fun l => ck a <| inD a l (kt σ) (kf σ)) (fun es => keyOf a fun i => lookE es i (fun _ => kt σ) (kf σ)) o)
    (fun _ _ => false) (fun _ => false) (fun _ => false) (ck a <| kf σ) (fun h t _ _ => ck a <| ck (.cons h t) <| inD a (.cons h t) (kt σ) (kf σ)) b
noncomputable def bNotIn (l r : GE) : GB := fun R c f σ kt kf => l R c f σ fun a σ => r R c f σ fun b σ => listAt σ b fun l => ck a <| inD a l (kf σ) (kt σ)
noncomputable def bInL (l r : GE) : GB := fun R c f σ kt kf => l R c f σ fun a σ => r R c f σ fun b σ => ck a <| ck b <| inD a b (kt σ) (kf σ)
noncomputable def bNotInL (l r : GE) : GB := fun R c f σ kt kf => l R c f σ fun a σ => r R c f σ fun b σ => ck a <| ck b <| inD a b (kf σ) (kt σ)
noncomputable def bIs (l r : GE) : GB := fun R c f σ kt kf => l R c f σ fun a σ => r R c f σ fun b σ =>
  DV.rec (motive := fun _ => Bool) false (DV.rec (motive := fun _ => Bool) false (kt σ) (fun _ => false) (fun _ => false) (fun _ => false) (fun _ => false) (fun _ _ => false) (fun _ => false) (fun _ => false) false (fun _ _ _ _ => false) b)
    (fun _ => false) (fun _ => DV.rec (motive := fun _ => Bool) false (kf σ) (fun _ => false) (fun _ => false) (fun _ => false) (fun _ => false) (fun _ _ => false) (fun _ => false) (fun _ => false) false (fun _ _ _ _ => false) b)
    (fun _ => false) (fun _ => false) (fun _ _ => false) (fun _ => false) (fun _ => false) false (fun _ _ _ _ => false) a
noncomputable def bVal (g : GE) : GB := fun R c f σ kt kf => g R c f σ fun d σ =>
  DV.rec (motive := fun _ => Bool) false false (fun b => ifB b (kt σ) (kf σ)) (fun _ => false) (fun _ => false) (fun _ => false) (fun _ _ => false) (fun _ => false) (fun _ => false) false (fun _ _ _ _ => false) d
noncomputable def bTrue : GB := fun _ _ _ σ kt _ => kt σ
noncomputable def bFalse : GB := fun _ _ _ σ _ kf => kf σ
noncomputable def bOr (b r : GB) : GB := fun R c f σ kt kf => b R c f σ kt fun σ => r R c f σ kt kf
noncomputable def bAnd (b r : GB) : GB := fun R c f σ kt kf => b R c f σ (fun σ => r R c f σ kt kf) kf

-- targets
noncomputable def tC (i : Nat) : GT := fun d c f k => setD c i d fun c => k c f
noncomputable def tF (j : Nat) : GT := fun d c f k => setD f j d fun f => k c f
noncomputable def tTup (a b : GT) : GT := fun d c f k => asCons d fun x r => asCons r fun y r => asCh r (a x c f fun c f => b y c f k) fun _ _ => false

-- loops
inductive It where
  | list (n i : Nat)
  | ch (d : DV)
  | rng (x left : Nat)
  | ditems (n i z : Nat)
  | dvals (n i z : Nat)
def isTupE : PySem.Expr → Bool
  | .Tuple .. => true
  | _ => false
noncomputable def lenE (l : List (Nat × Nat)) : Nat := List.rec (motive := fun _ => Nat) 0 (fun _ _ n => Nat.add n 1) l
noncomputable def iterK (tup dv : Bool) (d : DV) (σ : Sto) (k : It → Bool) : Bool :=
  DV.rec (motive := fun _ => Bool) false false (fun _ => false) (fun _ => false) (fun _ => false) (fun n => nthO σ n fun o => obL o fun _ => k (.list n 0)) (fun a b => ifB (Nat.ble a 1000) (ifB (Nat.ble b 1000) (k (.rng a b)) false) false)
    (fun n => ifB tup (nthO σ n fun o => obD o fun es => frcN (lenE es) fun z => k (.ditems n 0 z)) false) (fun n => ifB dv (nthO σ n fun o => obD o fun es => frcN (lenE es) fun z => k (.dvals n 0 z)) false) (k (.ch .nil)) (fun h t _ _ => k (.ch (.cons h t))) d
noncomputable def nextK (it : It) (σ : Sto) (ke : Bool) (k : DV → It → Bool) : Bool :=
  It.rec (motive := fun _ => Bool) (fun n i => nthO σ n fun o => obL o fun l => nthC l i (fun d => frcN (Nat.add i 1) fun j => k d (.list n j)) ke)
    (fun d => asCh d ke fun h t => k h (.ch t))
    (fun x n => Nat.rec (motive := fun _ => Bool) ke (fun m _ => frcN (Nat.add x 1) fun y => k (.int x) (.rng y m)) n)
    (fun n i z => nthO σ n fun o => obD o fun es => ifB (Nat.beq (lenE es) z) (nthE es i (fun a v => frcN (Nat.add i 1) fun j => k (.cons (keyD a) (.cons (.int v) .nil)) (.ditems n j z)) ke) false)
    (fun n i z => nthO σ n fun o => obD o fun es => ifB (Nat.beq (lenE es) z) (nthE es i (fun _ v => frcN (Nat.add i 1) fun j => k (.int v) (.dvals n j z)) ke) false) it
/-- a comprehension's loops: what each turn does is handed on -/
abbrev KC := Sl → DV → Sto → Bool
abbrev GC := FSem → Sl → Sl → DV → Sto → KC → Bool
noncomputable def cElt (g : GE) : GC := fun R c f acc σ k => g R c f σ fun d σ => appC acc (.cons d .nil) fun acc => ck acc <| k c acc σ
noncomputable def cIf (b : GB) (r : GC) : GC := fun R c f acc σ k => b R c f σ (fun σ => r R c f acc σ k) (fun σ => k c acc σ)
noncomputable def cLoop (t : GT) (body : GC) (it : It) : GC := fun R c f acc σ k =>
  Nat.rec (motive := fun _ => It → Sl → DV → Sto → Bool) (fun _ _ _ _ => false)
    (fun _ ih it c acc σ => nextK it σ (k c acc σ) fun d it => t d c f fun c _ => body R c f acc σ fun c acc σ => ih it c acc σ) 10000 it c acc σ
noncomputable def cFor (t : GT) (g : GE) (body : GC) : GC := fun R c f acc σ k => g R c f σ fun d σ => iterK false false d σ fun it => cLoop t body it R c f acc σ k
noncomputable def cForL (t : GT) (g : GE) (body : GC) : GC := fun R c f acc σ k => g R c f σ fun d σ => cLoop t body (.ch d) R c f acc σ k
noncomputable def repl (n : Nat) : List DV := Nat.rec [] (fun _ ih => .unb :: ih) n
/-- the first loop's source is read outside -/
noncomputable def lComp (n : Nat) (t : GT) (g : GE) (body : GC) : GE := fun R _ f σ k => g R [] f σ fun d σ => iterK false false d σ fun it => frcL (repl n) fun c =>
  cLoop t body it R c f .nil σ fun _ acc σ => k acc σ
noncomputable def lCompL (n : Nat) (t : GT) (g : GE) (body : GC) : GE := fun R _ f σ k => g R [] f σ fun d σ => frcL (repl n) fun c =>
  cLoop t body (.ch d) R c f .nil σ fun _ acc σ => k acc σ

-- statements
noncomputable def sAsg (t : GT) (g : GE) : GS := fun R f σ kn _ => g R [] f σ fun d σ => t d [] f fun _ f => kn f σ
noncomputable def sSetI (o i g : GE) : GS := fun R f σ kn _ => g R [] f σ fun d σ => o R [] f σ fun a σ => i R [] f σ fun b σ => asLoc a fun n => keyOf b fun m => asInt d fun v => nthO σ n fun ob => obD ob fun es => putE es m v fun es => ckE es <| setO σ n (.dict es) fun σ => kn f σ
noncomputable def sAugI (o i g : GE) : GS := fun R f σ kn _ => o R [] f σ fun a σ => i R [] f σ fun b σ => asLoc a fun n => keyOf b fun m => nthO σ n fun ob => obD ob fun es => lookE es m (fun w =>
  g R [] f σ fun d σ => asInt d fun v => nthO σ n fun ob => obD ob fun es => frcN (Nat.add w v) fun z => putE es m z fun es => ckE es <| setO σ n (.dict es) fun σ => kn f σ) false
noncomputable def sAugN (j : Nat) (g : GE) : GS := fun R f σ kn _ => asInt (nthD f j) fun w => g R [] f σ fun d σ => asInt d fun v => frcN (Nat.add w v) fun z => setD f j (.int z) fun f => kn f σ
noncomputable def sIf (t : GB) (a b : GS) : GS := fun R f σ kn kr => t R [] f σ (fun σ => a R f σ kn kr) (fun σ => b R f σ kn kr)
noncomputable def sWhl (t : GB) (b : GS) : GS := fun R f σ kn kr =>
  Nat.rec (motive := fun _ => Sl → Sto → Bool) (fun _ _ => false) (fun _ ih f σ => t R [] f σ (fun σ => b R f σ (fun f σ => ih f σ) kr) (fun σ => kn f σ)) 10000 f σ
noncomputable def forK (t : GT) (b : GS) (R : FSem) (it : It) (f : Sl) (σ : Sto) (kn : Sl → Sto → Bool) (kr : DV → Sto → Bool) : Bool :=
  Nat.rec (motive := fun _ => It → Sl → Sto → Bool) (fun _ _ _ => false) (fun _ ih it f σ => nextK it σ (kn f σ) fun d it => t d [] f fun _ f => b R f σ (fun f σ => ih it f σ) kr) 10000 it f σ
noncomputable def sFor (tup : Bool) (t : GT) (g : GE) (b : GS) : GS := fun R f σ kn kr => g R [] f σ fun d σ => iterK tup true d σ fun it => forK t b R it f σ kn kr
noncomputable def sForL (t : GT) (g : GE) (b : GS) : GS := fun R f σ kn kr => g R [] f σ fun d σ => forK t b R (.ch d) f σ kn kr
noncomputable def sRet (g : GE) : GS := fun R f σ _ kr => g R [] f σ kr
noncomputable def sExp (g : GE) : GS := fun R f σ kn _ => g R [] f σ fun _ σ => kn f σ
noncomputable def sDead : GS := fun _ _ _ _ _ => false
noncomputable def sNil : GS := fun _ f σ kn _ => kn f σ
noncomputable def sCons (a b : GS) : GS := fun R f σ kn kr => a R f σ (fun f σ => b R f σ kn kr) kr

-- calls
/-- what a call hands back; the callee's own part of the store goes -/
noncomputable def backK (n₀ : Nat) (d : DV) (σ : Sto) (k : RV → Sto → Bool) : Bool :=
  DV.rec (motive := fun _ => Bool) false (takeO n₀ σ fun σ => k (.val .non) σ) (fun b => takeO n₀ σ fun σ => k (.val (.bool b)) σ) (fun n => takeO n₀ σ fun σ => k (.val (.int n)) σ) (fun _ => false)
    (fun n => ifB (Nat.blt n n₀) false (nthO σ n fun o => DObj.rec (motive := fun _ => Bool) (fun d => (takeO n₀ σ fun σ => k (.list d) σ)) (fun es => takeO n₀ σ fun σ => k (.dict es) σ) o))
    (fun _ _ => false) (fun _ => false) (fun _ => false) (takeO n₀ σ fun σ => k (.val .nil) σ) (fun h t _ _ => ck (.cons h t) (takeO n₀ σ fun σ => k (.val (.cons h t)) σ)) d
/-- the frame: the arguments, the defaults of the rest, then names without values -/
noncomputable def frameK (ds : DV) (dfl : List DV) (k : List DV → Bool) : Bool :=
  DV.rec (motive := fun _ => List DV → (List DV → Bool) → Bool) (fun _ _ => false) (fun _ _ => false) (fun _ _ _ => false) (fun _ _ _ => false) (fun _ _ _ => false) (fun _ _ _ => false) (fun _ _ _ _ => false) (fun _ _ _ => false) (fun _ _ _ => false)
    (fun dfl k => k dfl) (fun h _ _ ih dfl k => List.rec (motive := fun _ => Bool) false (fun _ r _ => ih r fun r => k (h :: r)) dfl) ds dfl k
noncomputable def fnK (dfl : List DV) (lo hi : Nat) (body : GS) (R : FSem) (ds : DV) (σ : Sto) (k : RV → Sto → Bool) : Bool :=
  lenC ds fun l => ifB (Nat.ble lo l) (ifB (Nat.ble l hi) (frameK ds dfl fun f => frcN (lenO σ) fun n₀ => body R f σ (fun _ σ => backK n₀ .non σ k) fun d σ => backK n₀ d σ k) false) false

/-- the functions by number -/
structure FD where
  dfl : List DV
  lo : Nat
  hi : Nat
  body : GS
noncomputable def pick (T : List FD) (n : Nat) (R : FSem) (ds : DV) (σ : Sto) (k : RV → Sto → Bool) : Bool :=
  List.rec (motive := fun _ => Nat → Bool) (fun _ => false) (fun d _ ih n => Nat.rec (motive := fun _ => Bool) (fnK d.dfl d.lo d.hi d.body R ds σ k) (fun m _ => ih m) n) T n
noncomputable def sem (T : List FD) (n : Nat) : FSem := Nat.rec (fun _ _ _ _ => false) (fun _ R n ds σ k => pick T n R ds σ k) n
end Mine

set_option maxHeartbeats 200000

set_option maxRecDepth 100000
namespace Mine
open PySem PySem.W PyProof.Rows

def strOf (s : Nat) : Str := if s = 0 then "upright" else "way"

/-- objects that no step turns -/
def Imm (o : Obj) : Prop := (∃ xs n, o.data = .seq xs n ∧ o.cls = .type "tuple") ∨ ∃ vs, o.data = .fields vs ∧ (o.cls = .type "range" ∨ o.cls = .type "dict_items" ∨ o.cls = .type "dict_values")
def ImmK (h h' : Heap) : Prop := ∀ b o, h.get? b = some o → Imm o → h'.get? b = some o
theorem ImmK.refl (h : Heap) : ImmK h h := fun _ _ e _ => e
theorem ImmK.trans {h h' h'' : Heap} (x : ImmK h h') (y : ImmK h' h'') : ImmK h h'' := fun b o e i => y b o (x b o e i) i
theorem ImmK.of_keep {h h' : Heap} (x : ∀ b o, h.get? b = some o → h'.get? b = some o) : ImmK h h' := fun b o e _ => x b o e

/-- what a value says of a datum: alone, and as the items of a list or tuple -/
def rel (α : List Addr) (h : Heap) : DV → (Value → Prop) × (List Value → Prop)
  | .unb => (fun _ => False, fun _ => False)
  | .non => (fun v => v = .none, fun _ => False)
  | .bool b => (fun v => v = .bool b, fun _ => False)
  | .int n => (fun v => ∃ t, v = .int (n : Int) t, fun _ => False)
  | .str n => (fun v => ∃ t, v = .str (strOf n) t, fun _ => False)
  | .loc n => (fun v => ∃ a, α[n]? = some a ∧ v = .ref a, fun _ => False)
  | .rng a n => (fun v => ∃ r t u w, v = .ref r ∧ IsRange h r (a : Int) ((a : Int) + (n : Int)) 1 t u w, fun _ => False)
  | .ditems n => (fun v => ∃ d a, α[n]? = some d ∧ v = .ref a ∧ h.IsItemsView a d, fun _ => False)
  | .dvals n => (fun v => ∃ d a, α[n]? = some d ∧ v = .ref a ∧ h.IsValuesView a d, fun _ => False)
  | .nil => (fun v => ∃ a, v = .ref a ∧ h.IsTuple a #[], fun vs => vs = [])
  | .cons x y => (fun v => ∃ a u us, v = .ref a ∧ h.IsTuple a (u :: us).toArray ∧ (rel α h x).1 u ∧ (rel α h y).2 us,
      fun vs => ∃ u us, vs = u :: us ∧ (rel α h x).1 u ∧ (rel α h y).2 us)
abbrev V (α : List Addr) (h : Heap) (v : Value) (d : DV) : Prop := (rel α h d).1 v
abbrev VI (α : List Addr) (h : Heap) (vs : List Value) (d : DV) : Prop := (rel α h d).2 vs

theorem isTuple_imm {h h' : Heap} {a : Addr} {xs : Array Value} (k : ImmK h h') (t : h.IsTuple a xs) : h'.IsTuple a xs := by
  obtain ⟨o, ho, hc, n, hd⟩ := t
  exact ⟨o, k _ _ ho (.inl ⟨xs, n, hd, hc⟩), hc, n, hd⟩
theorem rel_mono {α : List Addr} {h h' : Heap} (k : ImmK h h') (t : List Addr) : ∀ d : DV, (∀ v, (rel α h d).1 v → (rel (α ++ t) h' d).1 v) ∧ (∀ vs, (rel α h d).2 vs → (rel (α ++ t) h' d).2 vs) := by
  have app : ∀ {n : Nat} {a : Addr}, α[n]? = some a → (α ++ t)[n]? = some a := by
    intro n a e
    rw [List.getElem?_append_left (List.getElem?_eq_some_iff.mp e).1]
    exact e
  intro d
  induction d with
  | unb => exact ⟨fun _ x => x, fun _ x => x⟩
  | non => exact ⟨fun _ x => x, fun _ x => x⟩
  | bool b => exact ⟨fun _ x => x, fun _ x => x⟩
  | int n => exact ⟨fun _ x => x, fun _ x => x⟩
  | str n => exact ⟨fun _ x => x, fun _ x => x⟩
  | loc n => exact ⟨fun v ⟨a, e, x⟩ => ⟨a, app e, x⟩, fun _ x => x⟩
  | rng a n => exact ⟨fun v ⟨r, t, u, w, e, x⟩ => ⟨r, t, u, w, e, k _ _ x (.inr ⟨_, rfl, .inl rfl⟩)⟩, fun _ x => x⟩
  | ditems n => exact ⟨fun v ⟨d, a, e, x, o, ho, hc, hd⟩ => ⟨d, a, app e, x, o, k _ _ ho (.inr ⟨_, hd, .inr (.inl hc)⟩), hc, hd⟩, fun _ x => x⟩
  | dvals n => exact ⟨fun v ⟨d, a, e, x, o, ho, hc, hd⟩ => ⟨d, a, app e, x, o, k _ _ ho (.inr ⟨_, hd, .inr (.inr hc)⟩), hc, hd⟩, fun _ x => x⟩
  | nil => exact ⟨fun v ⟨a, e, x⟩ => ⟨a, e, isTuple_imm k x⟩, fun _ x => x⟩
  | cons x y ih1 ih2 =>
    exact ⟨fun v ⟨a, u, us, e, ht, h1, h2⟩ => ⟨a, u, us, e, isTuple_imm k ht, ih1.1 _ h1, ih2.2 _ h2⟩, fun vs ⟨u, us, e, h1, h2⟩ => ⟨u, us, e, ih1.1 _ h1, ih2.2 _ h2⟩⟩
theorem V.mono {α t : List Addr} {h h' : Heap} {v : Value} {d : DV} (x : V α h v d) (k : ImmK h h') : V (α ++ t) h' v d := (rel_mono k t d).1 v x
theorem VI.mono {α t : List Addr} {h h' : Heap} {vs : List Value} {d : DV} (x : VI α h vs d) (k : ImmK h h') : VI (α ++ t) h' vs d := (rel_mono k t d).2 vs x
theorem V.imm {α : List Addr} {h h' : Heap} {v : Value} {d : DV} (x : V α h v d) (k : ImmK h h') : V α h' v d := by
  have := V.mono (t := []) x k
  rwa [List.append_nil] at this
theorem VI.imm {α : List Addr} {h h' : Heap} {vs : List Value} {d : DV} (x : VI α h vs d) (k : ImmK h h') : VI α h' vs d := by
  have := VI.mono (t := []) x k
  rwa [List.append_nil] at this
/-- ground data say nothing of the store -/
theorem VI.lift {α : List Addr} {h : Heap} {vs : List Value} {d : DV} (x : VI [] h vs d) : VI α h vs d := by
  have := VI.mono (t := α) x (ImmK.refl h)
  rwa [List.nil_append] at this
theorem V.lift {α : List Addr} {h : Heap} {v : Value} {d : DV} (x : V [] h v d) : V α h v d := by
  have := V.mono (t := α) x (ImmK.refl h)
  rwa [List.nil_append] at this

/-- ints, strs and tuples of them, of bounded size -/
def Gr : DV → Nat → Prop
  | .int _, _ => True
  | .str i, _ => i ≤ 1
  | .nil, _ => True
  | .cons x y, n => ∃ m, n = m + 1 ∧ Gr x m ∧ Gr y m
  | _, _ => False
theorem grB_iff {k : Bool} : ∀ (d : DV) (n : Nat), grB d k n = true → Gr d n ∧ k = true := by
  intro d
  induction d generalizing k with
  | int i => intro n h; exact ⟨trivial, h⟩
  | str i =>
    intro n h
    have h' : ifB (Nat.ble i 1) k false = true := h
    cases hb : Nat.ble i 1 with
    | true => rw [hb] at h'; exact ⟨Nat.le_of_ble_eq_true hb, h'⟩
    | false => rw [hb] at h'; exact absurd h' (by simp [ifB])
  | nil => intro n h; exact ⟨trivial, h⟩
  | cons x y ih1 ih2 =>
    intro n h
    cases n with
    | zero => exact absurd h (by simp [grB])
    | succ m =>
      obtain ⟨h1, h2⟩ := ih1 (k := grB y k m) m h
      obtain ⟨h3, h4⟩ := ih2 m h2
      exact ⟨⟨m, rfl, h1, h3⟩, h4⟩
  | _ => intro n h; simp [grB] at h
theorem ck_iff {d : DV} {k : Bool} (h : ck d k = true) : Gr d 60 ∧ k = true := grB_iff d 60 h
theorem Gr.le : ∀ {d : DV} {n m : Nat}, Gr d n → n ≤ m → Gr d m := by
  intro d
  induction d with
  | int i => intros; trivial
  | str i => intro n m h _; exact h
  | nil => intros; trivial
  | cons x y ih1 ih2 =>
    rintro n m ⟨k, rfl, h1, h2⟩ hm
    obtain ⟨m, rfl⟩ : ∃ p, m = p + 1 := ⟨m - 1, by omega⟩
    exact ⟨m, rfl, ih1 h1 (by omega), ih2 h2 (by omega)⟩
  | _ => intro n m h; exact h.elim
/-- ground data say nothing of the store -/
theorem ground_rel {α : List Addr} {h : Heap} : ∀ (d : DV) (n : Nat), Gr d n → (∀ v, (rel α h d).1 v → (rel [] h d).1 v) ∧ (∀ vs, (rel α h d).2 vs → (rel [] h d).2 vs) := by
  intro d
  induction d with
  | int i => intros; exact ⟨fun _ x => x, fun _ x => x⟩
  | str i => intros; exact ⟨fun _ x => x, fun _ x => x⟩
  | nil => intros; exact ⟨fun _ x => x, fun _ x => x⟩
  | cons x y ih1 ih2 =>
    rintro n ⟨m, rfl, g1, g2⟩
    have j1 := ih1 m g1
    have j2 := ih2 m g2
    exact ⟨fun v ⟨a, u, us, e, ht, h1, h2⟩ => ⟨a, u, us, e, ht, j1.1 _ h1, j2.2 _ h2⟩, fun vs ⟨u, us, e, h1, h2⟩ => ⟨u, us, e, j1.1 _ h1, j2.2 _ h2⟩⟩
  | _ => intro n g; exact g.elim
theorem V.ground {α : List Addr} {h : Heap} {v : Value} {d : DV} {n : Nat} (x : V α h v d) (g : Gr d n) : V [] h v d := (ground_rel d n g).1 v x
theorem VI.ground {α : List Addr} {h : Heap} {vs : List Value} {d : DV} {n : Nat} (x : VI α h vs d) (g : Gr d n) : VI [] h vs d := (ground_rel d n g).2 vs x

/-- a tuple's items -/
theorem V.items {α : List Addr} {h : Heap} {v : Value} {x y : DV} (r : V α h v (.cons x y)) : ∃ a vs, v = .ref a ∧ h.IsTuple a vs.toArray ∧ VI α h vs (.cons x y) :=
  let ⟨a, u, us, e, ht, h1, h2⟩ := r; ⟨a, u :: us, e, ht, u, us, rfl, h1, h2⟩
theorem V.nilItems {α : List Addr} {h : Heap} {v : Value} (r : V α h v .nil) : ∃ a, v = .ref a ∧ h.IsTuple a ([] : List Value).toArray := r
def Chain : DV → Prop
  | .nil => True
  | .cons _ _ => True
  | _ => False
theorem VI.chain {α : List Addr} {h : Heap} {vs : List Value} : ∀ {d : DV}, VI α h vs d → Chain d
  | .nil, _ => trivial
  | .cons _ _, _ => trivial
  | .unb, x | .non, x | .bool _, x | .int _, x | .str _, x | .loc _, x | .rng _ _, x | .ditems _, x | .dvals _, x => x.elim
theorem V.tup {α : List Addr} {h : Heap} {a : Addr} {vs : List Value} : ∀ {d : DV}, VI α h vs d → h.IsTuple a vs.toArray → V α h (.ref a) d
  | .nil, e, t => by subst e; exact ⟨a, rfl, t⟩
  | .cons _ _, ⟨u, us, e, h1, h2⟩, t => by subst e; exact ⟨a, u, us, rfl, t, h1, h2⟩
  | .unb, x, _ | .non, x, _ | .bool _, x, _ | .int _, x, _ | .str _, x, _ | .loc _, x, _ | .rng _ _, x, _ | .ditems _, x, _ | .dvals _, x, _ => x.elim
theorem V.asItems {α : List Addr} {h : Heap} {v : Value} {d : DV} (r : V α h v d) (c : Chain d) : ∃ a vs, v = .ref a ∧ h.IsTuple a vs.toArray ∧ VI α h vs d := by
  cases d with
  | nil => obtain ⟨a, e, t⟩ := r; exact ⟨a, [], e, t, rfl⟩
  | cons x y => exact r.items
  | _ => exact c.elim

theorem Gr.size {α : List Addr} {h : Heap} : ∀ {d : DV} {n : Nat} {vs : List Value}, Gr d n → VI α h vs d → vs.length ≤ n := by
  intro d
  induction d with
  | nil => intro n vs _ x; cases x; exact Nat.zero_le _
  | cons x y _ ih2 =>
    rintro n vs ⟨m, rfl, _, g⟩ ⟨u, us, rfl, _, h2⟩
    have := ih2 g h2
    rw [List.length_cons]; omega
  | _ => intro n vs _ x; exact x.elim

/-- a cons' rest is a chain -/
def WF : DV → Prop
  | .cons x y => WF x ∧ WF y ∧ Chain y
  | _ => True
theorem rel_wf {α : List Addr} {h : Heap} : ∀ d : DV, (∀ v, (rel α h d).1 v → WF d) ∧ (∀ vs, (rel α h d).2 vs → WF d) := by
  intro d
  induction d with
  | cons x y ih1 ih2 =>
    have all : ∀ u us, (rel α h x).1 u → (rel α h y).2 us → WF (.cons x y) := fun u us h1 h2 => ⟨ih1.1 u h1, ih2.2 us h2, VI.chain (α := α) (h := h) (vs := us) h2⟩
    exact ⟨fun v ⟨_, u, us, _, _, h1, h2⟩ => all u us h1 h2, fun vs ⟨u, us, _, h1, h2⟩ => all u us h1 h2⟩
  | _ => exact ⟨fun _ _ => trivial, fun _ _ => trivial⟩
theorem V.wf {α : List Addr} {h : Heap} {v : Value} {d : DV} (x : V α h v d) : WF d := (rel_wf d).1 v x
theorem VI.wf {α : List Addr} {h : Heap} {vs : List Value} {d : DV} (x : VI α h vs d) : WF d := (rel_wf d).2 vs x

-- the reader of data in the library
def pyP : DV → PyData × List PyData
  | .int n => (.int (n : Int), [])
  | .str n => (.str (strOf n), [])
  | .nil => (.tuple [], [])
  | .cons x y => (.tuple ((pyP x).1 :: (pyP y).2), (pyP x).1 :: (pyP y).2)
  | _ => (.none, [])
abbrev py (d : DV) : PyData := (pyP d).1
abbrev pyL (d : DV) : List PyData := (pyP d).2
theorem py_chain : ∀ {d : DV}, Chain d → py d = .tuple (pyL d)
  | .nil, _ => rfl
  | .cons _ _, _ => rfl
open PySem.Spec in
theorem reads_py {α : List Addr} {h : Heap} : ∀ (d : DV) (n : Nat), Gr d n → (∀ v, V α h v d → ∃ as, Reads h v (py d) as) ∧ (∀ vs, VI α h vs d → ∃ as, ReadsAll h vs (pyL d) as) := by
  intro d
  induction d with
  | int i => intro n _; exact ⟨fun v ⟨t, e⟩ => by subst e; exact ⟨_, Reads.int _ t⟩, fun _ x => x.elim⟩
  | str i => intro n _; exact ⟨fun v ⟨t, e⟩ => by subst e; exact ⟨_, Reads.str _ t⟩, fun _ x => x.elim⟩
  | nil =>
    intro n _
    refine ⟨fun v ⟨a, e, o, ho, hc, k, hd⟩ => ?_, fun vs x => ?_⟩
    · subst e; exact ⟨_, reads_tuple_at ho hc hd ReadsAll.nil⟩
    · cases x; exact ⟨_, ReadsAll.nil⟩
  | cons x y ih1 ih2 =>
    rintro n ⟨m, rfl, g1, g2⟩
    have all : ∀ vs, VI α h vs (.cons x y) → ∃ as, ReadsAll h vs (pyL (.cons x y)) as := by
      rintro vs ⟨u, us, rfl, h1, h2⟩
      obtain ⟨as, r1⟩ := (ih1 m g1).1 u h1
      obtain ⟨bs, r2⟩ := (ih2 m g2).2 us h2
      exact ⟨_, ReadsAll.cons r1 r2⟩
    refine ⟨fun v r => ?_, all⟩
    obtain ⟨a, vs, rfl, ⟨o, ho, hc, k, hd⟩, hi⟩ := V.items r
    obtain ⟨as, ra⟩ := all vs hi
    exact ⟨_, reads_tuple_at ho hc hd (by rw [List.toList_toArray]; exact ra)⟩
  | _ => intro n g; exact g.elim
theorem shape_py : ∀ (d : DV) (n : Nat), Gr d n → ((py d).canLay0 = true ∧ (py d).depth ≤ n + 1) ∧ (PyData.canLayAll0 (pyL d) = true ∧ PyData.depthAll (pyL d) ≤ n) := by
  have h0 : ∀ n, PyData.canLayAll0 [] = true ∧ PyData.depthAll [] ≤ n := fun n => ⟨by rw [PyData.canLayAll0], by rw [PyData.depthAll]; omega⟩
  intro d
  induction d with
  | int i =>
    intro n _
    refine ⟨⟨?_, ?_⟩, h0 n⟩
    · show PyData.canLay0 (.int _) = true
      rw [PyData.canLay0]
    · show PyData.depth (.int _) ≤ _
      rw [PyData.depth]; omega
  | str i =>
    intro n _
    refine ⟨⟨?_, ?_⟩, h0 n⟩
    · show PyData.canLay0 (.str (strOf i)) = true
      unfold strOf
      split <;> decide +kernel
    · show PyData.depth (.str _) ≤ _
      rw [PyData.depth]; omega
  | nil =>
    intro n _
    refine ⟨⟨?_, ?_⟩, h0 n⟩
    · show PyData.canLay0 (.tuple []) = true
      rw [PyData.canLay0, PyData.canLayAll0]
    · show PyData.depth (.tuple []) ≤ _
      rw [PyData.depth, PyData.depthAll]; omega
  | cons x y ih1 ih2 =>
    rintro n ⟨m, rfl, g1, g2⟩
    obtain ⟨⟨a1, a2⟩, _⟩ := ih1 m g1
    obtain ⟨_, b1, b2⟩ := ih2 m g2
    have k1 : PyData.canLayAll0 (py x :: pyL y) = true := by rw [PyData.canLayAll0, a1, b1]; rfl
    have k2 : PyData.depthAll (py x :: pyL y) ≤ m + 1 := by rw [PyData.depthAll]; exact Nat.max_le.mpr ⟨a2, by omega⟩
    refine ⟨⟨?_, ?_⟩, k1, k2⟩
    · show PyData.canLay0 (.tuple (py x :: pyL y)) = true
      rw [PyData.canLay0]; exact k1
    · show PyData.depth (.tuple (py x :: pyL y)) ≤ _
      rw [PyData.depth]; omega
  | _ => intro n g; exact g.elim
theorem shaped_py {d : DV} (g : Gr d 60) : SeqAt.shaped (py d) = true := by
  obtain ⟨⟨h1, h2⟩, _⟩ := shape_py d 60 g
  unfold SeqAt.shaped
  rw [h1, decide_eq_true (by omega : (py d).depth ≤ 64)]
  rfl
theorem shaped_list {d : DV} (g : Gr d 60) : SeqAt.shaped (.list (pyL d)) = true := by
  obtain ⟨_, h1, h2⟩ := shape_py d 60 g
  unfold SeqAt.shaped
  rw [PyData.canLay0, h1, PyData.depth, decide_eq_true (by omega : PyData.depthAll (pyL d) + 1 ≤ 64)]
  rfl
-- == of data
theorem asInt_iff {d : DV} {k : Nat → Bool} (h : asInt d k = true) : ∃ n, d = .int n ∧ k n = true := by
  cases d <;> first | exact ⟨_, rfl, h⟩ | (simp [asInt] at h)
theorem asLoc_iff {d : DV} {k : Nat → Bool} (h : asLoc d k = true) : ∃ n, d = .loc n ∧ k n = true := by
  cases d <;> first | exact ⟨_, rfl, h⟩ | (simp [asLoc] at h)
theorem asCons_iff {d : DV} {k : DV → DV → Bool} (h : asCons d k = true) : ∃ x y, d = .cons x y ∧ k x y = true := by
  cases d <;> first | exact ⟨_, _, rfl, h⟩ | (simp [asCons] at h)
theorem asCh_iff {d : DV} {kn : Bool} {k : DV → DV → Bool} (h : asCh d kn k = true) : (d = .nil ∧ kn = true) ∨ ∃ x y, d = .cons x y ∧ k x y = true := by
  cases d <;> first | exact .inr ⟨_, _, rfl, h⟩ | exact .inl ⟨rfl, h⟩ | (simp [asCh] at h)
theorem ifB_iff {b x y : Bool} (h : ifB b x y = true) : (b = true ∧ x = true) ∨ (b = false ∧ y = true) := by
  cases b
  · exact .inr ⟨rfl, h⟩
  · exact .inl ⟨rfl, h⟩
theorem strOf_inj {n m : Nat} (hn : n ≤ 1) (hm : m ≤ 1) (h : strOf n = strOf m) : n = m := by
  have e : (strOf 0 = strOf 1) → False := by
    intro h
    have : decide (strOf 0 = strOf 1) = false := by decide +kernel
    simp [h] at this
  match n, m, hn, hm with
  | 0, 0, _, _ => rfl
  | 1, 1, _, _ => rfl
  | 0, 1, _, _ => exact (e h).elim
  | 1, 0, _, _ => exact (e h.symm).elim

theorem eqD_iff {x y : Bool} : ∀ (a b : DV) (n m : Nat), Gr a n → Gr b m → WF a → WF b → eqD a b x y = true →
    ((PyData.eqv (py a) (py b) = true ∧ x = true) ∨ (PyData.eqv (py a) (py b) = false ∧ y = true)) ∧
    (Chain a → (PyData.eqvAll (pyL a) (pyL b) = PyData.eqv (py a) (py b)) ∧ Chain b) := by
  intro a
  induction a generalizing x y with
  | int i =>
    intro b n m _ _ _ _ h
    obtain ⟨j, rfl, h⟩ := asInt_iff (show asInt b (fun m => ifB (Nat.beq i m) x y) = true from h)
    refine ⟨?_, fun c => c.elim⟩
    have e : PyData.eqv (py (.int i)) (py (.int j)) = Nat.beq i j := by
      show PyData.eqv (.int _) (.int _) = _
      rw [PyData.eqv]
      cases hb : Nat.beq i j with
      | true => rw [Nat.eq_of_beq_eq_true hb]; simp
      | false => have := Nat.ne_of_beq_eq_false hb; simp; omega
    rw [e]
    exact ifB_iff h
  | str i =>
    intro b n m gi gb _ _ h
    cases b with
    | str j =>
      refine ⟨?_, fun c => c.elim⟩
      have e : PyData.eqv (py (.str i)) (py (.str j)) = Nat.beq i j := by
        show PyData.eqv (.str _) (.str _) = _
        rw [PyData.eqv]
        cases hb : Nat.beq i j with
        | true => rw [Nat.eq_of_beq_eq_true hb]; simp
        | false =>
          have hne := Nat.ne_of_beq_eq_false hb
          have : strOf i ≠ strOf j := fun e => hne (strOf_inj gi gb e)
          simp [this]
      rw [e]
      exact ifB_iff (show ifB (Nat.beq i j) x y = true from h)
    | _ => simp [eqD] at h
  | nil =>
    intro b n m _ _ _ _ h
    rcases asCh_iff (show asCh b x (fun _ _ => y) = true from h) with ⟨rfl, h⟩ | ⟨h0, t, rfl, h⟩
    · refine ⟨.inl ⟨?_, h⟩, fun _ => ⟨?_, trivial⟩⟩
      · show PyData.eqv (.tuple []) (.tuple []) = true
        rw [PyData.eqv, PyData.eqvAll]
      · show PyData.eqvAll [] [] = PyData.eqv (.tuple []) (.tuple [])
        rw [PyData.eqv]
    · refine ⟨.inr ⟨?_, h⟩, fun _ => ⟨?_, trivial⟩⟩
      · show PyData.eqv (.tuple []) (.tuple (_ :: _)) = false
        rw [PyData.eqv, PyData.eqvAll]
      · show PyData.eqvAll [] (_ :: _) = PyData.eqv (.tuple []) (.tuple (_ :: _))
        rw [PyData.eqv]
  | cons a1 a2 ih1 ih2 =>
    rintro b n m ⟨n, rfl, g1, g2⟩ gb ⟨w1, w2, c2⟩ wb h
    rcases asCh_iff (show asCh b y (fun h t => eqD a1 h (eqD a2 t x y) y) = true from h) with ⟨rfl, h⟩ | ⟨b1, b2, rfl, h⟩
    · refine ⟨.inr ⟨?_, h⟩, fun _ => ⟨?_, trivial⟩⟩
      · show PyData.eqv (.tuple (_ :: _)) (.tuple []) = false
        rw [PyData.eqv, PyData.eqvAll]
      · show PyData.eqvAll (_ :: _) [] = PyData.eqv (.tuple (_ :: _)) (.tuple [])
        rw [PyData.eqv]
    · obtain ⟨m, rfl, g3, g4⟩ := gb
      obtain ⟨w3, w4, c4⟩ := wb
      have e0 : PyData.eqv (py (.cons a1 a2)) (py (.cons b1 b2)) = (PyData.eqv (py a1) (py b1) && PyData.eqvAll (pyL a2) (pyL b2)) := by
        show PyData.eqv (.tuple (_ :: _)) (.tuple (_ :: _)) = _
        rw [PyData.eqv, PyData.eqvAll]
      refine ⟨?_, fun _ => ⟨?_, trivial⟩⟩
      · rw [e0]
        rcases (ih1 b1 n m g1 g3 w1 w3 h).1 with ⟨e1, h⟩ | ⟨e1, h⟩
        · rw [e1, Bool.true_and]
          have j := ih2 b2 n m g2 g4 w2 w4 h
          rw [(j.2 c2).1]
          exact j.1
        · rw [e1]; exact .inr ⟨rfl, h⟩
      · rw [e0]
        show PyData.eqvAll (_ :: _) (_ :: _) = _
        rw [PyData.eqvAll]
  | _ => intro b n m g; exact g.elim
end Mine

set_option maxRecDepth 100000
namespace Mine
open PySem PySem.W PyProof.Rows

-- the evaluator's small parts
theorem frcN_eq (n : Nat) (k : Nat → Bool) : frcN n k = k n := by cases n <;> rfl
theorem frcL_eq {α : Type} (l : List α) : ∀ k : List α → Bool, frcL l k = k l := by
  induction l with
  | nil => intro k; rfl
  | cons x xs ih => intro k; exact ih _
theorem nthO_iff {k : DObj → Bool} : ∀ {σ : Sto} {n : Nat}, nthO σ n k = true → ∃ o, σ[n]? = some o ∧ k o = true
  | [], n, h => by simp [nthO] at h
  | x :: r, 0, h => ⟨x, rfl, h⟩
  | x :: r, n + 1, h => by
    obtain ⟨o, e, h⟩ := nthO_iff (σ := r) (n := n) h
    exact ⟨o, by simpa using e, h⟩
theorem obL_iff {o : DObj} {k : DV → Bool} (h : obL o k = true) : ∃ d, o = .list d ∧ k d = true := by
  cases o with
  | list d => exact ⟨d, rfl, h⟩
  | dict es => simp [obL] at h
theorem obD_iff {o : DObj} {k : List (Nat × Nat) → Bool} (h : obD o k = true) : ∃ d, o = .dict d ∧ k d = true := by
  cases o with
  | dict d => exact ⟨d, rfl, h⟩
  | list es => simp [obD] at h
theorem setO_eq {o : DObj} : ∀ (σ : Sto) (n : Nat) (k : Sto → Bool), setO σ n o k = k (σ.set n o)
  | [], n, k => rfl
  | x :: r, 0, k => rfl
  | x :: r, n + 1, k => setO_eq r n _
theorem takeO_eq : ∀ (n : Nat) (σ : Sto) (k : Sto → Bool), takeO n σ k = k (σ.take n)
  | 0, σ, k => rfl
  | n + 1, [], k => rfl
  | n + 1, x :: r, k => takeO_eq n r _
theorem lenO_eq : ∀ σ : Sto, lenO σ = σ.length
  | [] => rfl
  | _ :: r => by
    show Nat.add (lenO r) 1 = _
    rw [lenO_eq r]; rfl
theorem addO_eq {o : DObj} {k : Nat → Sto → Bool} (σ : Sto) : addO σ o k = k σ.length (σ ++ [o]) := by
  have h1 : ∀ (l : Sto) (k' : Sto → Bool) (n : Nat), List.rec (motive := fun _ => Nat → (Sto → Bool) → Bool) (fun _ k' => k' [o]) (fun x _ ih n k => ih n fun r => k (x :: r)) l n k' = k' (l ++ [o]) := by
    intro l
    induction l with
    | nil => intro k' n; rfl
    | cons x r ih => intro k' n; exact ih _ _
  unfold addO
  rw [h1, frcN_eq]
  show k (lenO σ) _ = _
  rw [lenO_eq]
theorem nthD_eq : ∀ (l : List DV) (n : Nat), nthD l n = l.getD n .unb
  | [], n => rfl
  | x :: r, 0 => rfl
  | x :: r, n + 1 => by
    show nthD r n = _
    rw [nthD_eq r n]; rfl
theorem setD_eq {d : DV} : ∀ (l : List DV) (n : Nat) (k : List DV → Bool), setD l n d k = k (l.set n d)
  | [], n, k => rfl
  | x :: r, 0, k => rfl
  | x :: r, n + 1, k => setD_eq r n _
theorem listAt_iff {σ : Sto} {d : DV} {k : DV → Bool} (h : listAt σ d k = true) : ∃ n l, d = .loc n ∧ σ[n]? = some (.list l) ∧ k l = true := by
  obtain ⟨n, rfl, h⟩ := asLoc_iff h
  obtain ⟨o, e, h⟩ := nthO_iff h
  obtain ⟨l, rfl, h⟩ := obL_iff h
  exact ⟨n, l, rfl, e, h⟩

-- names and slots
structure Cx where
  cn : Option (List (Str × NameKind))
  fnm : List (Str × NameKind)
def idx : List (Str × NameKind) → Str → Option (Nat × NameKind)
  | [], _ => none
  | (y, k) :: r, x => if y = x then some (0, k) else (idx r x).map fun p => (p.1 + 1, p.2)
inductive PN where
  | c (i : Nat)
  | f (j : Nat)
def slotF (fnm : List (Str × NameKind)) (x : Str) : Option PN := match idx fnm x with
  | some (j, .local) => some (.f j)
  | some (j, .cell) => some (.f j)
  | _ => none
def slotOf (cx : Cx) (x : Str) : Option PN := match cx.cn with
  | none => slotF cx.fnm x
  | some cn => match idx cn x with
    | some (i, .local) => some (.c i)
    | some (_, .free) => match idx cx.fnm x with
      | some (j, .cell) => some (.f j)
      | _ => none
    | _ => none
def globOf (cx : Cx) (x : Str) : Bool := match cx.cn with
  | none => cx.fnm.lookup x == some .globalImplicit
  | some cn => cn.lookup x == some .globalImplicit
theorem idx_lookup : ∀ {l : List (Str × NameKind)} {x : Str} {j : Nat} {k : NameKind}, idx l x = some (j, k) → l.lookup x = some k
  | (y, k') :: r, x, j, k, h => by
    unfold idx at h
    rw [List.lookup_cons]
    by_cases e : y = x
    · rw [if_pos e] at h
      cases h
      simp [e]
    · rw [if_neg e] at h
      have hb : (x == y) = false := beq_eq_false_iff_ne.mpr fun q => e q.symm
      rw [hb]
      cases hi : idx r x with
      | none => rw [hi] at h; cases h
      | some p =>
        rw [hi] at h
        cases h
        exact idx_lookup (j := p.1) hi
theorem idx_inj : ∀ {l : List (Str × NameKind)} {x y : Str} {j : Nat} {k k' : NameKind}, idx l x = some (j, k) → idx l y = some (j, k') → x = y
  | (z, k₀) :: r, x, y, j, k, k', h, h' => by
    unfold idx at h h'
    by_cases e : z = x
    · rw [if_pos e] at h
      cases h
      by_cases e' : z = y
      · exact e.symm.trans e'
      · rw [if_neg e'] at h'
        cases hi : idx r y with
        | none => rw [hi] at h'; cases h'
        | some p => rw [hi] at h'; cases h'
    · rw [if_neg e] at h
      cases hi : idx r x with
      | none => rw [hi] at h; cases h
      | some p =>
        rw [hi] at h
        cases h
        by_cases e' : z = y
        · rw [if_pos e'] at h'; cases h'
        · rw [if_neg e'] at h'
          cases hj : idx r y with
          | none => rw [hj] at h'; cases h'
          | some q =>
            rw [hj] at h'
            have e1 : q.1 = p.1 := by
              have := congrArg Prod.fst (Option.some.inj h')
              have h2 : q.1 + 1 = p.1 + 1 := this
              omega
            obtain ⟨q1, q2⟩ := q
            dsimp only at e1
            subst e1
            exact idx_inj (l := r) hi hj
theorem slotF_idx {l : List (Str × NameKind)} {x : Str} {p : PN} (h : slotF l x = some p) : ∃ j k, idx l x = some (j, k) ∧ p = .f j ∧ (k = .local ∨ k = .cell) := by
  unfold slotF at h
  cases hi : idx l x with
  | none => rw [hi] at h; cases h
  | some q =>
    obtain ⟨j, k⟩ := q
    rw [hi] at h
    cases k <;> first | cases h | skip
    · exact ⟨j, _, rfl, rfl, .inl rfl⟩
    · exact ⟨j, _, rfl, rfl, .inr rfl⟩
theorem slotOf_c {cn fnm : List (Str × NameKind)} {x : Str} {p : PN} (h : slotOf ⟨some cn, fnm⟩ x = some p) :
    (∃ i, idx cn x = some (i, .local) ∧ p = .c i) ∨ ∃ i j, idx cn x = some (i, .free) ∧ idx fnm x = some (j, .cell) ∧ p = .f j := by
  unfold slotOf at h
  dsimp only at h
  cases hi : idx cn x with
  | none => rw [hi] at h; cases h
  | some q =>
    obtain ⟨i, k⟩ := q
    rw [hi] at h
    cases k <;> dsimp only at h
    · cases h; exact .inl ⟨i, rfl, rfl⟩
    · cases h
    · cases hj : idx fnm x with
      | none => rw [hj] at h; cases h
      | some r =>
        obtain ⟨j, k⟩ := r
        rw [hj] at h
        cases k <;> first | cases h | skip
        exact .inr ⟨i, j, rfl, rfl, rfl⟩
    · cases h
    · cases h
theorem slotOf_inj {cx : Cx} {x y : Str} {p : PN} (h : slotOf cx x = some p) (h' : slotOf cx y = some p) : x = y := by
  obtain ⟨cn, fnm⟩ := cx
  cases cn with
  | none =>
    obtain ⟨j, k, e, rfl, _⟩ := slotF_idx h
    obtain ⟨j', k', e', hp, _⟩ := slotF_idx h'
    cases hp
    exact idx_inj e e'
  | some cn =>
    rcases slotOf_c h with ⟨i, e, rfl⟩ | ⟨i, j, e1, e2, rfl⟩
    · rcases slotOf_c h' with ⟨i', e', hp⟩ | ⟨_, _, _, _, hp⟩
      · cases hp; exact idx_inj e e'
      · cases hp
    · rcases slotOf_c h' with ⟨_, _, hp⟩ | ⟨_, _, _, e', hp⟩
      · cases hp
      · cases hp; exact idx_inj e2 e'

-- the dicts' keys
def mixIs : Str ⊕ Int → Value → Bool
  | .inl x, v => Value.isStrOf x v
  | .inr i, v => Value.isInt i v
theorem mixIs_l {x : Str} {v : Value} (h : mixIs (.inl x) v = true) : ∃ t, v = .str x t := Value.isStrOf_shape h
theorem mixIs_r {x : Int} {v : Value} (h : mixIs (.inr x) v = true) : ∃ t, v = .int x t := Value.isInt_shape h
theorem eqBool_si {prog : Program} {w : World} {A : Around} {E : Value → Shared → Prop} {s : Shared} {x : Str} {i : Int} {t u : Tok} {Q : Bool → Shared → Prop} (h : Q false s) :
    wpAny (model prog w) A (eqBool (.str x t) (.int i u)) Q E s := by
  unfold eqBool
  refine wpAny_holding ?_
  rw [if_neg (by simp)]
  exact wpAny_bind (EqMixed.eq_str_int (wpAny_truthy_bool h))
theorem eqBool_is {prog : Program} {w : World} {A : Around} {E : Value → Shared → Prop} {s : Shared} {x : Str} {i : Int} {t u : Tok} {Q : Bool → Shared → Prop} (h : Q false s) :
    wpAny (model prog w) A (eqBool (.int i u) (.str x t)) Q E s := by
  unfold eqBool
  refine wpAny_holding ?_
  rw [if_neg (by simp)]
  exact wpAny_bind (EqMixed.eq_int_str (wpAny_truthy_bool h))
def mixKind (prog : Program) (w : World) : KeyKind prog w (Str ⊕ Int) where
  is := mixIs
  hash := fun k => match k with
    | .inl x => hashStr w x
    | .inr i => hashInt i
  inj := fun v a b ha hb => by
    cases a <;> cases b
    · obtain ⟨t, rfl⟩ := mixIs_l ha
      obtain ⟨u, e⟩ := mixIs_l hb
      cases e; rfl
    · obtain ⟨t, rfl⟩ := mixIs_l ha
      obtain ⟨u, e⟩ := mixIs_r hb
      cases e
    · obtain ⟨t, rfl⟩ := mixIs_r ha
      obtain ⟨u, e⟩ := mixIs_l hb
      cases e
    · obtain ⟨t, rfl⟩ := mixIs_r ha
      obtain ⟨u, e⟩ := mixIs_r hb
      cases e; rfl
  byValue := fun k v h => by
    cases k
    · obtain ⟨t, rfl⟩ := mixIs_l h; rfl
    · obtain ⟨t, rfl⟩ := mixIs_r h; rfl
  pyHash := fun {A E s k v Q} hv h => by
    cases k
    · obtain ⟨t, rfl⟩ := mixIs_l hv; exact wpAny_pyHash_str h
    · obtain ⟨t, rfl⟩ := mixIs_r hv; exact wpAny_pyHash_int h
  eqBool := fun {A E s a b u v Q} hu hv h => by
    cases a <;> cases b
    · obtain ⟨t, rfl⟩ := mixIs_l hu
      obtain ⟨t', rfl⟩ := mixIs_l hv
      exact wpAny_eqBool_str (by simp only [Sum.inl.injEq] at h; exact h)
    · obtain ⟨t, rfl⟩ := mixIs_l hu
      obtain ⟨t', rfl⟩ := mixIs_r hv
      exact eqBool_si (by simpa using h)
    · obtain ⟨t, rfl⟩ := mixIs_r hu
      obtain ⟨t', rfl⟩ := mixIs_l hv
      exact eqBool_is (by simpa using h)
    · obtain ⟨t, rfl⟩ := mixIs_r hu
      obtain ⟨t', rfl⟩ := mixIs_r hv
      exact wpAny_eqBool_int (by simp only [Sum.inr.injEq] at h; exact h)
  «strs» := fun k x t v h => by
    cases k
    · obtain ⟨u, hu⟩ := mixIs_l h
      injection hu with hx
      subst hx
      cases v <;> rfl
    · obtain ⟨u, hu⟩ := mixIs_r h
      cases hu
end Mine

set_option maxRecDepth 100000
namespace Mine
open PySem PySem.W PyProof.Rows

def keyL (n : Nat) : List (Str ⊕ Int) := [.inl (strOf 0), .inr (n : Int), .inl (strOf 1)]
abbrev dk (prog : Program) (w : World) : HeapKind prog w (List (Str ⊕ Int)) := tupleKind (mixKind prog w)
def DictR : List (List (Str ⊕ Int) × Addr × Value) → List (Nat × Nat) → Prop
  | [], [] => True
  | x :: xs, e :: es => x.1 = keyL e.1 ∧ (∃ t, x.2.2 = .int (e.2 : Int) t) ∧ DictR xs es
  | _, _ => False

/-- a list as the call makes it -/
def IsL (h : Heap) (a : Addr) (xs : Array Value) : Prop := ∃ n, h.get? a = some { cls := .type "list", data := .seq xs n }
theorem IsL.made {h : Heap} {a : Addr} {xs : Array Value} {n : Nat} (e : h.get? a = some { cls := .type "list", data := .seq xs n }) : IsL h a xs := ⟨n, e⟩
theorem IsL.isList {h : Heap} {a : Addr} {xs : Array Value} (x : IsL h a xs) : h.IsList a xs := let ⟨n, e⟩ := x; ⟨_, e, rfl, n, rfl⟩
theorem IsL.keep {h h' : Heap} {a : Addr} {xs : Array Value} (x : IsL h a xs) (e : ∀ ob, h.get? a = some ob → h'.get? a = some ob) : IsL h' a xs := let ⟨n, q⟩ := x; ⟨n, e _ q⟩
section
variable (prog : Program) (w : World)
/-- a dict to which keys have only come: its turn tells how many -/
def DictE (h : Heap) (d : Addr) (xs : List (List (Str ⊕ Int) × Addr × Value)) : Prop := ∃ o es, h.get? d = some o ∧ o.ExactDict ∧ o.data = .dict es xs.length ∧ es.toList = xs.map (entryOfKey (dk prog w)) ∧ (∀ x ∈ xs, (dk prog w).is h x.1 x.2.1) ∧ (xs.map (·.1)).Nodup
theorem DictE.toH {h : Heap} {d : Addr} {xs : List (List (Str ⊕ Int) × Addr × Value)} (x : DictE prog w h d xs) : h.DictOfH (dk prog w) d xs := let ⟨o, es, ho, r⟩ := x; ⟨o, es, _, ho, r⟩
theorem DictE.new (h : Heap) : DictE prog w (h.push { cls := .type "dict", data := .dict #[] }) h.objs.size [] :=
  ⟨_, #[], Heap.get?_push_size _ rfl, ⟨rfl, rfl, rfl⟩, rfl, rfl, fun _ hx => by simp at hx, List.nodup_nil⟩
/-- the object of the heap that an object of the store stands for -/
def ObOk (h : Heap) (a : Addr) : DObj → Prop
  | .list d => ∃ vs : List Value, IsL h a vs.toArray ∧ VI [] h vs d ∧ Gr d 60
  | .dict es => 3 < a ∧ es.length ≤ 60 ∧ ∃ xs, DictE prog w h a xs ∧ DictR xs es
structure StoOk (α : List Addr) (σ : Sto) (h : Heap) : Prop where
  len : α.length = σ.length
  nod : α.Nodup
  obj : ∀ (n : Nat) (a : Addr) (o : DObj), α[n]? = some a → σ[n]? = some o → ObOk prog w h a o
end

section
variable {prog : Program} {w : World}
theorem ObOk.there {h : Heap} {a : Addr} {o : DObj} (x : ObOk prog w h a o) : ∃ ob, h.get? a = some ob ∧ ¬ Imm ob := by
  cases o with
  | list d =>
    obtain ⟨vs, ⟨n, ho⟩, _⟩ := x
    refine ⟨_, ho, ?_⟩
    rintro (⟨xs, k, e, ec⟩ | ⟨ws, e, _⟩)
    · exact absurd (Value.type.inj ec) (by decide)
    · cases e
  | dict es =>
    obtain ⟨_, _, xs, ⟨ob, ds, ho, _, hd, _⟩, _⟩ := x
    refine ⟨ob, ho, ?_⟩
    rintro (⟨xs, k, e, ec⟩ | ⟨ws, e, _⟩)
    · rw [hd] at e; cases e
    · rw [hd] at e; cases e
theorem tupleKey_imm {h h' : Heap} {ks : List (Str ⊕ Int)} {b : Addr} (k : ImmK h h') (x : (dk prog w).is h ks b) : (dk prog w).is h' ks b := by
  obtain ⟨o, items, n, ho, hc, hd, hi⟩ := x
  exact ⟨o, items, n, k _ _ ho (.inl ⟨_, _, hd, hc⟩), hc, hd, hi⟩
theorem dict_keep {h h' : Heap} {a : Addr} {xs : List (List (Str ⊕ Int) × Addr × Value)} (x : DictE prog w h a xs) (e : ∀ ob, h.get? a = some ob → h'.get? a = some ob) (k : ImmK h h') : DictE prog w h' a xs := by
  obtain ⟨o, es, ho, hc, hd, he, hi, hn⟩ := x
  exact ⟨o, es, e _ ho, hc, hd, he, fun y hy => tupleKey_imm k (hi y hy), hn⟩
theorem list_keep {h h' : Heap} {a : Addr} {xs : Array Value} (x : h.IsList a xs) (e : ∀ ob, h.get? a = some ob → h'.get? a = some ob) : h'.IsList a xs := by
  obtain ⟨o, ho, r⟩ := x
  exact ⟨o, e _ ho, r⟩
theorem ObOk.keep {h h' : Heap} {a : Addr} {o : DObj} (x : ObOk prog w h a o) (e : ∀ ob, h.get? a = some ob → h'.get? a = some ob) (k : ImmK h h') : ObOk prog w h' a o := by
  cases o with
  | list d =>
    obtain ⟨vs, hl, hv, hg⟩ := x
    exact ⟨vs, IsL.keep hl e, hv.imm k, hg⟩
  | dict es =>
    obtain ⟨h3, hz, xs, hx, hr⟩ := x
    exact ⟨h3, hz, xs, dict_keep hx e k, hr⟩
end

/-- a name's value, or none is told -/
def Opt (α : List Addr) (h : Heap) (v? : Option Value) (d : DV) : Prop := d = .unb ∨ ∃ v, v? = some v ∧ V α h v d
theorem Opt.mono {α t : List Addr} {h h' : Heap} {v? : Option Value} {d : DV} (x : Opt α h v? d) (k : ImmK h h') : Opt (α ++ t) h' v? d := by
  rcases x with x | ⟨v, e, r⟩
  · exact .inl x
  · exact .inr ⟨v, e, r.mono k⟩
theorem Opt.imm {α : List Addr} {h h' : Heap} {v? : Option Value} {d : DV} (x : Opt α h v? d) (k : ImmK h h') : Opt α h' v? d := by
  have := Opt.mono (t := []) x k
  rwa [List.append_nil] at this
noncomputable def pget (p : PN) (c f : Sl) : DV := match p with
  | .c i => nthD c i
  | .f j => nthD f j

/-- the frame at hand -/
structure EnvOk (cx : Cx) (env : Env) (c f : Sl) (α : List Addr) (h : Heap) : Prop where
  kind : env.scope.kind = .function
  glo : env.globals = mainGlobals
  bui : env.builtins = builtinsNs
  kn : ∀ x p, slotOf cx x = some p → env.kindOf x = some .local ∨ env.kindOf x = some .cell
  gl : ∀ x, globOf cx x = true → env.kindOf x = some .globalImplicit
  kf : cx.cn = none → ∀ x, env.kindOf x = cx.fnm.lookup x
  kc : ∀ x i, slotOf cx x = some (.c i) → env.kindOf x = some .local
  ns : ∃ m, h.Ns env.locals m ∧ ∀ x p, slotOf cx x = some p → env.kindOf x = some .local → Opt α h (m x) (pget p c f)
  cl : ∀ x p, slotOf cx x = some p → env.kindOf x = some .cell → ∃ a v, env.cells.lookup x = some a ∧ h.IsCell a v ∧ Opt α h v (pget p c f)
  dL : ∀ x, env.cells.lookup x ≠ some env.locals
  dX : ∀ x y a, env.cells.lookup x = some a → env.cells.lookup y = some a → x = y

/-- the frame's own places -/
def CellAt (cx : Cx) (env : Env) (b : Addr) : Prop := ∃ x p, slotOf cx x = some p ∧ env.kindOf x = some .cell ∧ env.cells.lookup x = some b
def Own (cx : Cx) (env : Env) (α : List Addr) (b : Addr) : Prop := b = env.locals ∨ (cx.cn = none ∧ CellAt cx env b) ∨ b ∈ α

structure Inv (prog : Program) (w : World) (h₀ : Heap) (cx : Cx) (env : Env) (c f : Sl) (σ : Sto) (α : List Addr) (h : Heap) : Prop where
  base : ∀ b o, h₀.get? b = some o → h.get? b = some o
  sto : StoOk prog w α σ h
  fr : EnvOk cx env c f α h
  fL : h₀.get? env.locals = none
  fC : ∀ b, CellAt cx env b → h₀.get? b = none
  fA : ∀ b, b ∈ α → h₀.get? b = none
  aL : env.locals ∉ α
  aC : ∀ b, CellAt cx env b → b ∉ α

/-- what a step leaves as it was -/
structure Ext (cx : Cx) (env : Env) (α : List Addr) (h : Heap) (α' : List Addr) (h' : Heap) : Prop where
  pre : ∃ t, α' = α ++ t ∧ ∀ a ∈ t, h.get? a = none
  keep : ∀ b o, h.get? b = some o → ¬ Own cx env α b → h'.get? b = some o
  live : ∀ b o, h.get? b = some o → ∃ o', h'.get? b = some o'
  imm : ImmK h h'

section
variable {prog : Program} {w : World} {h₀ : Heap} {cx : Cx} {env : Env} {c f : Sl} {σ : Sto} {α α' α'' : List Addr} {h h' h'' : Heap}
theorem Ext.refl : Ext cx env α h α h := ⟨⟨[], (List.append_nil _).symm, fun _ x => nomatch x⟩, fun _ _ e _ => e, fun b o e => ⟨o, e⟩, ImmK.refl h⟩
theorem Ext.trans (x : Ext cx env α h α' h') (y : Ext cx env α' h' α'' h'') : Ext cx env α h α'' h'' := by
  obtain ⟨t, rfl, ht⟩ := x.pre
  obtain ⟨u, rfl, hu⟩ := y.pre
  refine ⟨⟨t ++ u, List.append_assoc _ _ _, fun a ha => ?_⟩, fun b o e hb => ?_, fun b o e => ?_, x.imm.trans y.imm⟩
  · rcases List.mem_append.mp ha with ha | ha
    · exact ht a ha
    · cases hq : h.get? a with
      | none => rfl
      | some o =>
        obtain ⟨o', e'⟩ := x.live a o hq
        rw [hu a ha] at e'; cases e'
  · refine y.keep b o (x.keep b o e hb) ?_
    rintro (q | q | q)
    · exact hb (.inl q)
    · exact hb (.inr (.inl q))
    · rcases List.mem_append.mp q with q | q
      · exact hb (.inr (.inr q))
      · rw [ht b q] at e; cases e
  · obtain ⟨o', e'⟩ := x.live b o e
    exact y.live b o' e'
theorem Ext.grow (k : ∀ b o, h.get? b = some o → h'.get? b = some o) : Ext cx env α h α h' :=
  ⟨⟨[], (List.append_nil _).symm, fun _ x => nomatch x⟩, fun b o e _ => k b o e, fun b o e => ⟨o, k b o e⟩, ImmK.of_keep k⟩
theorem Ext.V {v : Value} {d : DV} (x : Ext cx env α h α' h') (r : V α h v d) : Mine.V α' h' v d := by
  obtain ⟨t, rfl, _⟩ := x.pre
  exact r.mono x.imm
theorem Ext.VI {v : List Value} {d : DV} (x : Ext cx env α h α' h') (r : VI α h v d) : Mine.VI α' h' v d := by
  obtain ⟨t, rfl, _⟩ := x.pre
  exact r.mono x.imm
theorem Ext.at {n : Nat} {a : Addr} (x : Ext cx env α h α' h') (e : α[n]? = some a) : α'[n]? = some a := by
  obtain ⟨t, rfl, _⟩ := x.pre
  rw [List.getElem?_append_left (List.getElem?_eq_some_iff.mp e).1]
  exact e

/-- an object that is none of the frame's own stays -/
theorem Inv.notOwn (I : Inv prog w h₀ cx env c f σ α h) {b : Addr} {o : Obj} (e : h.get? b = some o) (i : Imm o) : ¬ Own cx env α b := by
  rintro (rfl | ⟨_, x, p, hp, hk, hb⟩ | hb)
  · obtain ⟨m, ⟨o', es, ep, e', hd, _⟩, _⟩ := I.fr.ns
    rw [e] at e'; cases e'
    rcases i with ⟨xs, n, q, _⟩ | ⟨vs, q, _⟩ <;> (rw [hd] at q; cases q)
  · obtain ⟨a, v, ha, ⟨o', e', hd⟩, _⟩ := I.fr.cl x p hp hk
    rw [hb] at ha; cases ha
    rw [e] at e'; cases e'
    rcases i with ⟨xs, n, q, _⟩ | ⟨vs, q, _⟩ <;> (rw [hd] at q; cases q)
  · obtain ⟨n, hn, rfl⟩ := List.mem_iff_getElem.mp hb
    have hn' : n < σ.length := I.sto.len ▸ hn
    obtain ⟨ob, e', ni⟩ := (I.sto.obj n _ _ (List.getElem?_eq_getElem hn) (List.getElem?_eq_getElem hn')).there
    rw [e] at e'; cases e'
    exact ni i
theorem EnvOk.step (x : EnvOk cx env c f α h) (t : List Addr) (kL : ∀ o, h.get? env.locals = some o → h'.get? env.locals = some o) (kC : ∀ b o, CellAt cx env b → h.get? b = some o → h'.get? b = some o) (k : ImmK h h') : EnvOk cx env c f (α ++ t) h' := by
  refine ⟨x.kind, x.glo, x.bui, x.kn, x.gl, x.kf, x.kc, ?_, fun y p hp hk => ?_, x.dL, x.dX⟩
  · obtain ⟨m, ⟨o, es, ep, e, r⟩, hm⟩ := x.ns
    exact ⟨m, ⟨o, es, ep, kL o e, r⟩, fun y p hp hk => (hm y p hp hk).mono k⟩
  · obtain ⟨a, v, ha, ⟨o, e, hd⟩, hv⟩ := x.cl y p hp hk
    exact ⟨a, v, ha, ⟨o, kC a o ⟨y, p, hp, hk, ha⟩ e, hd⟩, hv.mono k⟩
/-- all objects stay, new ones come -/
theorem Inv.grow (I : Inv prog w h₀ cx env c f σ α h) (k : ∀ b o, h.get? b = some o → h'.get? b = some o) : Inv prog w h₀ cx env c f σ α h' := by
  refine ⟨fun b o e => k b o (I.base b o e), ⟨I.sto.len, I.sto.nod, fun n a o hn ho => (I.sto.obj n a o hn ho).keep (fun ob e => k a ob e) (ImmK.of_keep k)⟩, ?_, I.fL, I.fC, I.fA, I.aL, I.aC⟩
  have := I.fr.step [] (fun o e => k _ o e) (fun b o _ e => k b o e) (ImmK.of_keep k)
  rwa [List.append_nil] at this
/-- a new object is taken into the store -/
theorem Inv.track (I : Inv prog w h₀ cx env c f σ α h) (k : ∀ b o, h.get? b = some o → h'.get? b = some o) {a : Addr} {o : DObj} (ha : h.get? a = none) (ho : ObOk prog w h' a o) : Inv prog w h₀ cx env c f (σ ++ [o]) (α ++ [a]) h' := by
  have J := I.grow k
  have hα : ∀ b, b ∈ α → b ≠ a := by
    rintro b hb rfl
    obtain ⟨n, hn, rfl⟩ := List.mem_iff_getElem.mp hb
    have hn' : n < σ.length := I.sto.len ▸ hn
    obtain ⟨ob, e', _⟩ := (I.sto.obj n _ _ (List.getElem?_eq_getElem hn) (List.getElem?_eq_getElem hn')).there
    rw [ha] at e'; cases e'
  have h0 : h₀.get? a = none := by
    cases q : h₀.get? a with
    | none => rfl
    | some o => rw [I.base a o q] at ha; cases ha
  refine ⟨J.base, ⟨?_, ?_, ?_⟩, ?_, I.fL, I.fC, ?_, ?_, ?_⟩
  · rw [List.length_append, List.length_append, I.sto.len]; rfl
  · rw [List.nodup_append]
    exact ⟨I.sto.nod, by simp, fun x hx y hy => by simp only [List.mem_singleton] at hy; subst hy; exact hα x hx⟩
  · intro n b o' hb ho'
    by_cases hlt : n < α.length
    · rw [List.getElem?_append_left hlt] at hb
      rw [List.getElem?_append_left (I.sto.len ▸ hlt)] at ho'
      exact J.sto.obj n b o' hb ho'
    · rw [List.getElem?_append_right (by omega)] at hb
      rw [List.getElem?_append_right (by have := I.sto.len; omega), ← I.sto.len] at ho'
      have : n - α.length = 0 := by
        cases q : n - α.length with
        | zero => rfl
        | succ m => rw [q] at hb; simp at hb
      rw [this] at hb ho'
      simp only [List.getElem?_cons_zero, Option.some.injEq] at hb ho'
      subst hb ho'
      exact ho
  · have := I.fr.step [a] (fun o e => k _ o e) (fun b o _ e => k b o e) (ImmK.of_keep k)
    exact this
  · intro b hb
    rcases List.mem_append.mp hb with hb | hb
    · exact I.fA b hb
    · simp only [List.mem_singleton] at hb; subst hb; exact h0
  · intro hb
    rcases List.mem_append.mp hb with hb | hb
    · exact I.aL hb
    · simp only [List.mem_singleton] at hb
      obtain ⟨m, ⟨o', es, ep, e', _⟩, _⟩ := I.fr.ns
      rw [hb, ha] at e'; cases e'
  · rintro b ⟨x, p, hp, hk, hb⟩ hm
    rcases List.mem_append.mp hm with hm | hm
    · exact I.aC b ⟨x, p, hp, hk, hb⟩ hm
    · simp only [List.mem_singleton] at hm; subst hm
      obtain ⟨a', v, ha', ⟨o', e', _⟩, _⟩ := I.fr.cl x p hp hk
      rw [hb] at ha'; cases ha'
      rw [ha] at e'; cases e'
theorem Ext.track (k : ∀ b o, h.get? b = some o → h'.get? b = some o) {a : Addr} (ha : h.get? a = none) : Ext cx env α h (α ++ [a]) h' :=
  ⟨⟨[a], rfl, fun x hx => by simp only [List.mem_singleton] at hx; subst hx; exact ha⟩, fun b o e _ => k b o e, fun b o e => ⟨o, k b o e⟩, ImmK.of_keep k⟩
/-- an object of the store turns -/
theorem Inv.setOb (I : Inv prog w h₀ cx env c f σ α h) {n : Nat} {a : Addr} {o : DObj} (hn : α[n]? = some a) (k : ∀ b o, b ≠ a → h.get? b = some o → h'.get? b = some o) (ho : ImmK h h' → ObOk prog w h' a o) :
    Inv prog w h₀ cx env c f (σ.set n o) α h' ∧ Ext cx env α h α h' := by
  have hm : a ∈ α := List.mem_of_getElem? hn
  have imm : ImmK h h' := fun b o e i => k b o (fun q => I.notOwn e i (.inr (.inr (q ▸ hm)))) e
  have hL : env.locals ≠ a := fun q => I.aL (q ▸ hm)
  have hC : ∀ b, CellAt cx env b → b ≠ a := fun b hb q => I.aC b hb (q ▸ hm)
  refine ⟨⟨fun b o e => k b o (fun q => ?_) (I.base b o e), ⟨?_, I.sto.nod, ?_⟩, ?_, I.fL, I.fC, I.fA, I.aL, I.aC⟩, ⟨⟨[], (List.append_nil _).symm, fun _ x => nomatch x⟩, fun b o e hb => k b o (fun q => hb (.inr (.inr (q ▸ hm)))) e, fun b o' e => ?_, imm⟩⟩
  · subst q
    rw [I.fA _ hm] at e; cases e
  · rw [List.length_set]; exact I.sto.len
  · intro m b o' hb ho'
    by_cases e : n = m
    · subst e
      rw [hn] at hb; cases hb
      have hlt : n < σ.length := I.sto.len ▸ (List.getElem?_eq_some_iff.mp hn).1
      rw [List.getElem?_set_self hlt] at ho'
      cases ho'
      exact ho imm
    · rw [List.getElem?_set_ne e] at ho'
      have hba : b ≠ a := by
        rintro rfl
        have h1 := (List.getElem?_eq_some_iff.mp hn).1
        exact e ((List.getElem?_inj h1 I.sto.nod).mp (hn.trans hb.symm))
      exact (I.sto.obj m b o' hb ho').keep (fun ob q => k b ob hba q) imm
  · have := I.fr.step [] (fun o e => k _ o hL e) (fun b o hb e => k b o (hC b hb) e) imm
    rwa [List.append_nil] at this
  · by_cases q : b = a
    · subst q
      obtain ⟨ob, e', _⟩ := (ho imm).there
      exact ⟨ob, e'⟩
    · exact ⟨o', k b o' q e⟩
end

section
variable {prog : Program} {w : World} {h₀ : Heap} {cx : Cx} {env : Env} {c f : Sl} {σ : Sto} {α α' α'' : List Addr} {h h' h'' : Heap}
/-- an object of no one's turns: an iterator -/
theorem Inv.turn {it : Addr} (I : Inv prog w h₀ cx env c f σ α h) (k : ∀ b o, b ≠ it → h.get? b = some o → h'.get? b = some o) (n0 : h₀.get? it = none) (nO : ¬ Own cx env α it)
    (nC : ∀ b, CellAt cx env b → b ≠ it) (nI : ∀ o, h.get? it = some o → ¬ Imm o) : Inv prog w h₀ cx env c f σ α h' := by
  have imm : ImmK h h' := fun b o e i => k b o (fun q => by subst q; exact nI o e i) e
  refine ⟨fun b o e => k b o (fun q => ?_) (I.base b o e), ⟨I.sto.len, I.sto.nod, fun n a o hn ho => (I.sto.obj n a o hn ho).keep (fun ob e => k a ob (fun q => ?_) e) imm⟩, ?_, I.fL, I.fC, I.fA, I.aL, I.aC⟩
  · subst q; rw [n0] at e; cases e
  · subst q; exact nO (.inr (.inr (List.mem_of_getElem? hn)))
  · have := I.fr.step [] (fun o e => k _ o (fun q => nO (.inl q.symm)) e) (fun b o hb e => k b o (nC b hb) e) imm
    rwa [List.append_nil] at this
theorem Ext.turn {it : Addr} (x : Ext cx env α h α' h') (k : ∀ b o, b ≠ it → h'.get? b = some o → h''.get? b = some o) (hi : h.get? it = none) : Ext cx env α h α' h'' := by
  have ne : ∀ b o, h.get? b = some o → b ≠ it := fun b o e q => by subst q; rw [hi] at e; cases e
  refine ⟨x.pre, fun b o e hb => k b o (ne b o e) (x.keep b o e hb), fun b o e => ?_, fun b o e i => k b o (ne b o e) (x.imm b o e i)⟩
  obtain ⟨o', e'⟩ := x.live b o e
  exact ⟨o', k b o' (ne b o e) e'⟩
end

structure Room (n : Nat) (A : Around) : Prop where
  hd : A.handled = none
  dp : A.depth + n < 900
  un : A.units + 3 * n + 500 < cLine
theorem Room.in1 {n : Nat} {A : Around} (r : Room n A) : A.units + 1 < cLine := by have := r.un; omega
theorem Room.u64 {n : Nat} {A : Around} (r : Room n A) : A.units + 64 < cLine := by have := r.un; omega
theorem Room.deeper {n : Nat} {A : Around} {env : Env} (r : Room (n + 1) A) : Room n (A.deeper env) :=
  ⟨r.hd, by show A.depth + 1 + n < 900; have := r.dp; omega, by show A.units + 3 + 3 * n + 500 < cLine; have := r.un; omega⟩
theorem Room.depth {n : Nat} {A : Around} (r : Room n A) : A.depth < recursionLimit := by have := r.dp; show A.depth < 1000; omega
end Mine

set_option maxRecDepth 100000
namespace Mine
open PySem PySem.W PyProof.Rows

def defs : List Str := ["add_callers", "count_calls", "insort_left", "bisect_left", "_law_steps", "_law_laid", "_law_turned"]
def at? : List Str → Str → Option Nat
  | [], _ => none
  | y :: r, x => if y = x then some 0 else (at? r x).map (· + 1)
def bis : List (Str × Value) := [("len", .builtin "len"), ("tuple", .type "tuple"), ("max", .builtin "max"), ("min", .builtin "min"), ("range", .type "range"), ("sorted", .builtin "sorted"), ("isinstance", .builtin "isinstance")]

/-- the ground that the call stands on -/
structure Base where
  prog : Program
  w : World
  h₀ : Heap
  mg : Str → Option Value
  mb : Str → Option Value
  fa : Nat → Addr
  lim : h₀.NoLimit
  big : ∃ b o, 3 ≤ b ∧ h₀.get? b = some o
  g : h₀.Ns mainGlobals mg
  b : h₀.Ns builtinsNs mb
  bi : ∀ x v, (x, v) ∈ bis → mg x = none ∧ mb x = some v
  fn : ∀ x n, at? defs x = some n → mg x = some (.ref (fa n)) ∧ ∃ o fd, h₀.get? (fa n) = some o ∧ o.data = .func fd

abbrev NoE : Value → Shared → Prop := fun _ _ => False
variable (Z : Base)
abbrev IN (cx : Cx) (env : Env) (c f : Sl) (σ : Sto) (α : List Addr) (h : Heap) : Prop := Inv Z.prog Z.w Z.h₀ cx env c f σ α h
/-- what a call hands back -/
def RVOk (α : List Addr) (h h' : Heap) (v : Value) : RV → Prop
  | .val d => V α h' v d
  | .list d => ∃ a, v = .ref a ∧ h.get? a = none ∧ ObOk Z.prog Z.w h' a (.list d)
  | .dict es => ∃ a, v = .ref a ∧ h.get? a = none ∧ ObOk Z.prog Z.w h' a (.dict es)
/-- the functions' sense, m calls deep at most -/
def RS (m : Nat) (R : FSem) : Prop := ∀ (n : Nat) (ds : DV) (σ : Sto) (k : RV → Sto → Bool), R n ds σ k = true → ∀ (A : Around) (α : List Addr) (s : Shared) (vs : List Value),
  Room m A → (∀ b o, Z.h₀.get? b = some o → s.heap.get? b = some o) → StoOk Z.prog Z.w α σ s.heap → (∀ b ∈ α, Z.h₀.get? b = none) → VI α s.heap vs ds →
  ∀ Q : Value → Shared → Prop, (∀ r σ' v h' tk', k r σ' = true → StoOk Z.prog Z.w α σ' h' → (∀ b o, s.heap.get? b = some o → b ∉ α → h'.get? b = some o) → RVOk Z α s.heap h' v r → Q v { s with heap := h', toks := tk' }) →
  wpAny (model Z.prog Z.w) A (call (.ref (Z.fa n)) vs) Q NoE s

def SE (cx : Cx) (e : PySem.Expr) (g : GE) : Prop := ∀ {m : Nat} {R : FSem} {A : Around} {env : Env} {c f : Sl} {σ : Sto} {α : List Addr} {s : Shared} {k : K1},
  RS Z m R → Room m A → IN Z cx env c f σ α s.heap → g R c f σ k = true → ∀ Q : Value → Shared → Prop,
  (∀ d σ' v α' h' tk', k d σ' = true → IN Z cx env c f σ' α' h' → Ext cx env α s.heap α' h' → V α' h' v d → Q v { s with heap := h', toks := tk' }) →
  wpAny (model Z.prog Z.w) A (eval e env) Q NoE s
/-- a list that no name bears yet -/
def SL (cx : Cx) (e : PySem.Expr) (g : GE) : Prop := ∀ {m : Nat} {R : FSem} {A : Around} {env : Env} {c f : Sl} {σ : Sto} {α : List Addr} {s : Shared} {k : K1},
  RS Z m R → Room m A → IN Z cx env c f σ α s.heap → g R c f σ k = true → ∀ Q : Value → Shared → Prop,
  (∀ d σ' a vs α' h' tk', k d σ' = true → IN Z cx env c f σ' α' h' → Ext cx env α s.heap α' h' → IsL h' a (List.toArray vs) → VI α' h' vs d → s.heap.get? a = none → ¬ Own cx env α' a → Q (.ref a) { s with heap := h', toks := tk' }) →
  wpAny (model Z.prog Z.w) A (eval e env) Q NoE s
def NS (e : PySem.Expr) : Prop := ∀ r env, starEach (e :: r) env = (false, eval e env) :: starEach r env
/-- some expressions in a row: arguments, a display's items -/
def SEs (cx : Cx) (es : List PySem.Expr) (g : GE) : Prop := (∀ e ∈ es, NS e) ∧ es.length ≤ 20 ∧ ∀ {m : Nat} {R : FSem} {A : Around} {env : Env} {c f : Sl} {σ : Sto} {α : List Addr} {s : Shared} {k : K1},
  RS Z m R → Room m A → IN Z cx env c f σ α s.heap → g R c f σ k = true → ∀ (pos : Pos) (Q : List Value → Shared → Prop),
  (∀ d σ' vs α' h' tk', k d σ' = true → IN Z cx env c f σ' α' h' → Ext cx env α s.heap α' h' → VI α' h' vs d → vs.length = es.length → Q vs { s with heap := h', toks := tk' }) →
  wpAny (model Z.prog Z.w) A (spliced (backTo pos (starEach es env))) Q NoE s

variable {Z}
section
variable {cx : Cx}
theorem SEs.nil : SEs Z cx [] esNil := by
  refine ⟨fun _ h => (nomatch h), by simp, fun {m R A env c f σ α s k} hR hA I hk pos Q hQ => ?_⟩
  exact wpAny_items_nil (hQ .nil σ [] α s.heap s.toks hk I Ext.refl rfl rfl)
theorem SEs.cons {e : PySem.Expr} {es : List PySem.Expr} {g gs : GE} (hs : NS e) (he : SE Z cx e g) (hes : SEs Z cx es gs) (hl : es.length < 20) : SEs Z cx (e :: es) (esCons g gs) := by
  refine ⟨fun x hx => ?_, by rw [List.length_cons]; omega, fun {m R A env c f σ α s k} hR hA I hk pos Q hQ => ?_⟩
  · rcases List.mem_cons.mp hx with rfl | hx
    · exact hs
    · exact hes.1 x hx
  refine wpAny_items_cons (he hR hA I hk _ fun d σ₁ v α₁ h₁ t₁ hk₁ I₁ E₁ V₁ => ?_) (hs _ _)
  refine hes.2.2 hR hA I₁ hk₁ pos _ fun ds σ₂ vs α₂ h₂ t₂ hk₂ I₂ E₂ V₂ hn => ?_
  exact hQ (.cons d ds) σ₂ (v :: vs) α₂ h₂ t₂ hk₂ I₂ (E₁.trans E₂) ⟨v, vs, rfl, E₂.V V₁, V₂⟩ (by simp [hn])

theorem SE.dead {e : PySem.Expr} : SE Z cx e eDead := fun {m R A env c f σ α s k} hR hA I hk => by simp [eDead] at hk
def conD : Const → Option DV
  | .none => some .non
  | .bool b => some (.bool b)
  | .int (.ofNat n) => some (.int n)
  | .str x => if x = "upright" then some (.str 0) else if x = "way" then some (.str 1) else none
  | _ => none
theorem SE.con {cc : Const} {kk : Nat} {pos : Pos} {d : DV} (hd : conD cc = some d) : SE Z cx (.Constant cc kk pos) (eCon d) := by
  intro m R A env c f σ α s k hR hA I hk Q hQ
  have hk' : k d σ = true := hk
  unfold conD at hd
  split at hd
  · cases hd
    exact wpAny_Constant_none (hQ .non σ .none α s.heap s.toks hk' I Ext.refl rfl)
  · cases hd
    exact wpAny_Constant_bool (hQ (.bool _) σ (.bool _) α s.heap s.toks hk' I Ext.refl rfl)
  · cases hd
    exact wpAny_Constant_int (hQ (.int _) σ _ α s.heap (s.toks + 1) hk' I Ext.refl ⟨_, rfl⟩)
  · split at hd
    · rename_i e
      cases hd; subst e
      exact wpAny_Constant_str (hQ (.str 0) σ _ α s.heap (s.toks + 1) hk' I Ext.refl ⟨_, rfl⟩)
    · split at hd
      · rename_i e
        cases hd; subst e
        exact wpAny_Constant_str (hQ (.str 1) σ _ α s.heap (s.toks + 1) hk' I Ext.refl ⟨_, rfl⟩)
      · cases hd
  · cases hd
theorem useD_iff {d : DV} {k : DV → Bool} (h : useD d k = true) : d ≠ .unb ∧ k d = true := by
  cases d with
  | unb => simp [useD] at h
  | _ => exact ⟨(by intro e; cases e), h⟩
/-- a name's value is at hand -/
theorem loadSlot {x : Str} {p : PN} (hx : slotOf cx x = some p) {A : Around} {env : Env} {c f : Sl} {σ : Sto} {α : List Addr} {s : Shared} (I : IN Z cx env c f σ α s.heap) (hn : pget p c f ≠ .unb)
    (Q : Value → Shared → Prop) (hQ : ∀ v, V α s.heap v (pget p c f) → Q v s) : wpAny (model Z.prog Z.w) A (loadName env x) Q NoE s := by
  rcases I.fr.kn x p hx with hl | hl
  · obtain ⟨m, hm, hv⟩ := I.fr.ns
    rcases hv x p hx hl with e | ⟨v, e, r⟩
    · exact absurd e hn
    · exact wpAny_loadName_local I.fr.kind hl hm e (hQ v r)
  · obtain ⟨a, v?, ha, hc, hv⟩ := I.fr.cl x p hx hl
    rcases hv with e | ⟨v, e, r⟩
    · exact absurd e hn
    · subst e
      exact wpAny_loadName_cell I.fr.kind hl ha hc (hQ v r)
theorem SE.nm {x : Str} {pos : Pos} {p : PN} (hx : slotOf cx x = some p) (hd : (x == ("__debug__" : Str)) = false) {m : Nat} {R : FSem} {A : Around} {env : Env} {c f : Sl} {σ : Sto} {α : List Addr} {s : Shared} {k : K1}
    (I : IN Z cx env c f σ α s.heap) (hk : useD (pget p c f) (fun d => k d σ) = true) (Q : Value → Shared → Prop)
    (hQ : ∀ d σ' v α' h' tk', k d σ' = true → IN Z cx env c f σ' α' h' → Ext cx env α s.heap α' h' → V α' h' v d → Q v { s with heap := h', toks := tk' }) :
    wpAny (model Z.prog Z.w) A (eval (.Name x pos) env) Q NoE s := by
  obtain ⟨h1, h2⟩ := useD_iff hk
  exact wpAny_Name (loadSlot hx I h1 _ fun v r => hQ _ σ v α s.heap s.toks h2 I Ext.refl r) hd
theorem SE.nmC {x : Str} {pos : Pos} {n : Nat} (hx : slotOf cx x = some (.c n)) (hd : (x == ("__debug__" : Str)) = false) : SE Z cx (.Name x pos) (eNmC n) :=
  fun {m R A env c f σ α s k} hR hA I hk Q hQ => SE.nm (m := m) (R := R) hx hd I hk Q hQ
theorem SE.nmF {x : Str} {pos : Pos} {n : Nat} (hx : slotOf cx x = some (.f n)) (hd : (x == ("__debug__" : Str)) = false) : SE Z cx (.Name x pos) (eNmF n) :=
  fun {m R A env c f σ α s k} hR hA I hk Q hQ => SE.nm (m := m) (R := R) hx hd I hk Q hQ
theorem push_keep (h : Heap) (o : Obj) : ∀ b o', h.get? b = some o' → (h.push o).get? b = some o' := fun b o' e => Heap.get?_push_of_some o e
theorem fresh_none (h : Heap) : h.get? h.objs.size = none := Heap.get?_none_of_le (Nat.le_refl _)
theorem line20 {n : Nat} (h : n ≤ 20) : n ≤ sizeLine := by rw [sizeLine_eq]; omega
theorem SE.tup {es : List PySem.Expr} {kk : Nat} {pos : Pos} {g : GE} (hes : SEs Z cx es g) : SE Z cx (.Tuple es kk pos) g := by
  intro m R A env c f σ α s k hR hA I hk Q hQ
  refine wpAny_Tuple (hes.2.2 hR hA I hk pos _ fun d σ₁ vs α₁ h₁ t₁ hk₁ I₁ E₁ V₁ hn => ⟨line20 (hn ▸ hes.2.1), ?_⟩)
  have k₁ := push_keep h₁ { cls := .type "tuple", data := .seq vs.toArray }
  exact hQ d σ₁ _ α₁ _ t₁ hk₁ (I₁.grow k₁) (E₁.trans (Ext.grow k₁)) (V.tup (V₁.imm (ImmK.of_keep k₁)) ⟨_, Heap.get?_push_size _ rfl, rfl, 0, rfl⟩)
/-- a new object is none of the frame's own -/
theorem new_notOwn {prog : Program} {w : World} {h₀ : Heap} {env : Env} {c f : Sl} {σ : Sto} {α : List Addr} {h : Heap} {a : Addr} (I : Inv prog w h₀ cx env c f σ α h) (ha : h.get? a = none) : ¬ Own cx env α a := by
  rintro (rfl | ⟨_, x, p, hp, hk, hb⟩ | hb)
  · obtain ⟨m, ⟨o', es, ep, e', hd, _⟩, _⟩ := I.fr.ns
    rw [ha] at e'; cases e'
  · obtain ⟨a', v, ha', ⟨o', e', hd⟩, _⟩ := I.fr.cl x p hp hk
    rw [hb] at ha'; cases ha'
    rw [ha] at e'; cases e'
  · obtain ⟨n, hn, rfl⟩ := List.mem_iff_getElem.mp hb
    have hn' : n < σ.length := I.sto.len ▸ hn
    obtain ⟨ob, e', ni⟩ := (I.sto.obj n _ _ (List.getElem?_eq_getElem hn) (List.getElem?_eq_getElem hn')).there
    rw [ha] at e'; cases e'
theorem Ext.fresh {env : Env} {α α' : List Addr} {h h' : Heap} {a : Addr} (x : Ext cx env α h α' h') (e : h'.get? a = none) : h.get? a = none := by
  cases q : h.get? a with
  | none => rfl
  | some o =>
    obtain ⟨o', e'⟩ := x.live a o q
    rw [e] at e'; cases e'
theorem SL.disp {es : List PySem.Expr} {pos : Pos} {g : GE} (hes : SEs Z cx es g) : SL Z cx (.List es pos) g := by
  intro m R A env c f σ α s k hR hA I hk Q hQ
  refine wpAny_List (hes.2.2 hR hA I hk pos _ fun d σ₁ vs α₁ h₁ t₁ hk₁ I₁ E₁ V₁ hn => ⟨line20 (hn ▸ hes.2.1), ?_⟩)
  have k₁ := push_keep h₁ { cls := .type "list", data := .seq vs.toArray }
  exact hQ d σ₁ _ vs α₁ _ t₁ hk₁ (I₁.grow k₁) (E₁.trans (Ext.grow k₁)) (IsL.made (Heap.get?_push_size _ rfl)) (V₁.imm (ImmK.of_keep k₁)) (E₁.fresh (fresh_none h₁)) (new_notOwn I₁ (fresh_none h₁))
end
end Mine

set_option maxRecDepth 100000
namespace Mine
open PySem PySem.W PyProof.Rows PySem.Calls

variable {Z : Base}
section
variable {cx : Cx} {A : Around} {env : Env} {c f : Sl} {σ : Sto} {α : List Addr} {s : Shared}
theorem backTo_plain {pos : Pos} {env : Env} : ∀ {es : List PySem.Expr}, (∀ e ∈ es, NS e) → (backTo pos (starEach es env)).any (·.1) = false
  | [], _ => rfl
  | e :: r, h => by
    rw [h e List.mem_cons_self r env]
    show (false || (backTo pos (starEach r env)).any (·.1)) = false
    rw [backTo_plain fun x hx => h x (List.mem_cons_of_mem _ hx)]
    rfl
/-- a built-in's name -/
theorem evalBi {x : Str} {pos : Pos} {v : Value} (I : IN Z cx env c f σ α s.heap) (hg : globOf cx x = true) (hx : (x, v) ∈ bis) (hd : (x == ("__debug__" : Str)) = false) {Q : Value → Shared → Prop} (h : Q v s) :
    wpAny (model Z.prog Z.w) A (eval (.Name x pos) env) Q NoE s := by
  obtain ⟨h1, h2⟩ := Z.bi x v hx
  refine Name_function_global I.fr.kind (I.fr.gl x hg) (loadGlobal_builtin (mg := Z.mg) (mb := Z.mb) ?_ h1 ?_ h2 h) hd
  · rw [I.fr.glo]; exact Z.g.keeps I.base
  · rw [I.fr.bui]; exact Z.b.keeps I.base
theorem evalFn {x : Str} {pos : Pos} {n : Nat} (I : IN Z cx env c f σ α s.heap) (hg : globOf cx x = true) (hx : at? defs x = some n) (hd : (x == ("__debug__" : Str)) = false) {Q : Value → Shared → Prop} (h : Q (.ref (Z.fa n)) s) :
    wpAny (model Z.prog Z.w) A (eval (.Name x pos) env) Q NoE s := by
  obtain ⟨h1, _⟩ := Z.fn x n hx
  refine Name_function_global I.fr.kind (I.fr.gl x hg) (loadGlobal_global (mg := Z.mg) ?_ h1 h) hd
  rw [I.fr.glo]; exact Z.g.keeps I.base
/-- a built-in function is called -/
theorem callBi {x : Str} {p1 pos : Pos} {id : String} {e : PySem.Expr} {es : List PySem.Expr} {Q : Value → Shared → Prop} (I : IN Z cx env c f σ α s.heap) (hg : globOf cx x = true) (hx : (x, .builtin id) ∈ bis) (hd : (x == ("__debug__" : Str)) = false) (hs : ∀ y ∈ e :: es, NS y)
    (h : wpAny (model Z.prog Z.w) A (spliced (backTo pos (starEach (e :: es) env))) (fun vs s₁ => wpAny (model Z.prog Z.w) A (call (.builtin id) vs) Q NoE s₁) NoE s) :
    wpAny (model Z.prog Z.w) A (eval (.Call (.Name x p1) (e :: es) [] pos) env) Q NoE s :=
  Call_ (evalBi I hg hx hd (callWith_builtin1 h (hs e List.mem_cons_self es env) (backTo_plain fun y hy => hs y (List.mem_cons_of_mem _ hy))))
theorem callTy {x : Str} {p1 pos : Pos} {id : String} {e : PySem.Expr} {es : List PySem.Expr} {Q : Value → Shared → Prop} (I : IN Z cx env c f σ α s.heap) (hg : globOf cx x = true) (hx : (x, .type id) ∈ bis) (hd : (x == ("__debug__" : Str)) = false) (hs : ∀ y ∈ e :: es, NS y)
    (h : wpAny (model Z.prog Z.w) A (spliced (backTo pos (starEach (e :: es) env))) (fun vs s₁ => wpAny (model Z.prog Z.w) A (call (.type id) vs) Q NoE s₁) NoE s) :
    wpAny (model Z.prog Z.w) A (eval (.Call (.Name x p1) (e :: es) [] pos) env) Q NoE s :=
  Call_ (evalBi I hg hx hd (PyProof.Rows.callWith_type1 h (hs e List.mem_cons_self es env) (backTo_plain fun y hy => hs y (List.mem_cons_of_mem _ hy))))

/-- one argument -/
theorem one {e : PySem.Expr} {pos : Pos} {Q : List Value → Shared → Prop} (hs : NS e) (h : wpAny (model Z.prog Z.w) A (eval e env) (fun v s₁ => Q [v] s₁) NoE s) :
    wpAny (model Z.prog Z.w) A (spliced (backTo pos (starEach [e] env))) Q NoE s :=
  wpAny_items_cons (wpAny_mono h (fun v s₁ h₁ => wpAny_items_nil h₁) fun _ _ x => x) (hs _ _)
theorem two {e e' : PySem.Expr} {pos : Pos} {Q : List Value → Shared → Prop} (hs : NS e) (hs' : NS e') (h : wpAny (model Z.prog Z.w) A (eval e env) (fun v s₁ => wpAny (model Z.prog Z.w) A (eval e' env) (fun v' s₂ => Q [v, v'] s₂) NoE s₁) NoE s) :
    wpAny (model Z.prog Z.w) A (spliced (backTo pos (starEach [e, e'] env))) Q NoE s :=
  wpAny_items_cons (wpAny_mono h (fun v s₁ h₁ => one hs' h₁) fun _ _ x => x) (hs _ _)
end

section
variable {cx : Cx}
/-- a list that no name bears is taken into the store -/
theorem Inv.adopt {prog : Program} {w : World} {h₀ : Heap} {env : Env} {c f : Sl} {σ : Sto} {α : List Addr} {h : Heap} (I : Inv prog w h₀ cx env c f σ α h) {a : Addr} {o : DObj} (no : ¬ Own cx env α a) (h0 : h₀.get? a = none) (ho : ObOk prog w h a o) :
    Inv prog w h₀ cx env c f (σ ++ [o]) (α ++ [a]) h := by
  have hα : ∀ b, b ∈ α → b ≠ a := fun b hb q => no (.inr (.inr (q ▸ hb)))
  refine ⟨I.base, ⟨?_, ?_, ?_⟩, I.fr.step [a] (fun _ e => e) (fun _ _ _ e => e) (ImmK.refl h), I.fL, I.fC, ?_, ?_, ?_⟩
  · rw [List.length_append, List.length_append, I.sto.len]; rfl
  · rw [List.nodup_append]
    exact ⟨I.sto.nod, by simp, fun x hx y hy => by simp only [List.mem_singleton] at hy; subst hy; exact hα x hx⟩
  · intro n b o' hb ho'
    by_cases hlt : n < α.length
    · rw [List.getElem?_append_left hlt] at hb
      rw [List.getElem?_append_left (I.sto.len ▸ hlt)] at ho'
      exact I.sto.obj n b o' hb ho'
    · rw [List.getElem?_append_right (by omega)] at hb
      rw [List.getElem?_append_right (by have := I.sto.len; omega), ← I.sto.len] at ho'
      have : n - α.length = 0 := by
        cases q : n - α.length with
        | zero => rfl
        | succ m => rw [q] at hb; simp at hb
      rw [this] at hb ho'
      simp only [List.getElem?_cons_zero, Option.some.injEq] at hb ho'
      subst hb ho'
      exact ho
  · intro b hb
    rcases List.mem_append.mp hb with hb | hb
    · exact I.fA b hb
    · simp only [List.mem_singleton] at hb; subst hb; exact h0
  · intro hb
    rcases List.mem_append.mp hb with hb | hb
    · exact I.aL hb
    · simp only [List.mem_singleton] at hb
      exact no (.inl hb.symm)
  · rintro b ⟨x, p, hp, hk, hb⟩ hm
    rcases List.mem_append.mp hm with hm | hm
    · exact I.aC b ⟨x, p, hp, hk, hb⟩ hm
    · simp only [List.mem_singleton] at hm; subst hm
      obtain ⟨a', v, ha', ⟨o', e', hd⟩, _⟩ := I.fr.cl x p hp hk
      rw [hb] at ha'; cases ha'
      cases o with
      | list d =>
        obtain ⟨vs, ⟨n, e2⟩, _⟩ := ho
        rw [e'] at e2; cases e2
        cases hd
      | dict es =>
        obtain ⟨_, _, xs, ⟨ob, ds, e2, _, hd2, _⟩, _⟩ := ho
        rw [e'] at e2; cases e2
        rw [hd] at hd2; cases hd2
theorem Ext.adopt {env : Env} {α α' : List Addr} {h h' : Heap} {a : Addr} (x : Ext cx env α h α' h') (ha : h.get? a = none) : Ext cx env α h (α' ++ [a]) h' := by
  obtain ⟨t, rfl, ht⟩ := x.pre
  exact ⟨⟨t ++ [a], List.append_assoc _ _ _, fun b hb => (List.mem_append.mp hb).elim (ht b) fun hb => by simp only [List.mem_singleton] at hb; subst hb; exact ha⟩, x.keep, x.live, x.imm⟩
theorem base_none {prog : Program} {w : World} {h₀ : Heap} {env : Env} {c f : Sl} {σ : Sto} {α : List Addr} {h : Heap} {a : Addr} (I : Inv prog w h₀ cx env c f σ α h) (ha : h.get? a = none) : h₀.get? a = none := by
  cases q : h₀.get? a with
  | none => rfl
  | some o => rw [I.base a o q] at ha; cases ha
theorem SE.trk {e : PySem.Expr} {g : GE} (he : SL Z cx e g) : SE Z cx e (eTrack g) := by
  intro m R A env c f σ α s k hR hA I hk Q hQ
  refine he hR hA I hk _ fun d σ₁ a vs α₁ h₁ t₁ hk₁ I₁ E₁ L₁ V₁ f₁ n₁ => ?_
  obtain ⟨g₁, hk₁⟩ := ck_iff hk₁
  rw [addO_eq] at hk₁
  have I₂ := I₁.adopt (o := .list d) n₁ (base_none I f₁) ⟨vs, L₁, V₁.ground g₁, g₁⟩
  refine hQ _ _ _ (α₁ ++ [a]) h₁ t₁ hk₁ I₂ (E₁.adopt f₁) ⟨a, ?_, rfl⟩
  rw [← I₁.sto.len]
  exact List.getElem?_concat_length

-- arithmetic
theorem SE.sub {pos : Pos} {l r : PySem.Expr} {gl gr : GE} (hl : SE Z cx l gl) (hr : SE Z cx r gr) : SE Z cx (.BinOp l .Sub r pos) (eSub gl gr) := by
  intro m R A env c f σ α s k hR hA I hk Q hQ
  refine wpAny_BinOp (hl hR hA I hk _ fun a σ₁ v₁ α₁ h₁ t₁ hk₁ I₁ E₁ V₁ => hr hR hA I₁ hk₁ _ fun b σ₂ v₂ α₂ h₂ t₂ hk₂ I₂ E₂ V₂ => ?_)
  obtain ⟨x, rfl, q1⟩ := asInt_iff hk₂
  obtain ⟨y, rfl, q2⟩ := asInt_iff q1
  rcases ifB_iff q2 with ⟨hb, q3⟩ | ⟨_, q3⟩
  · rw [frcN_eq] at q3
    obtain ⟨t, rfl⟩ := V₁
    obtain ⟨u, rfl⟩ := V₂
    have hle := Nat.le_of_ble_eq_true hb
    refine PyProof.Rows.sub_int ?_
    rw [show (x : Int) - (y : Int) = ((x - y : Nat) : Int) by omega]
    exact hQ _ σ₂ _ α₂ h₂ _ q3 I₂ (E₁.trans E₂) ⟨_, rfl⟩
  · exact absurd q3 (by simp)
theorem SE.mul {pos : Pos} {l r : PySem.Expr} {gl gr : GE} (hl : SE Z cx l gl) (hr : SE Z cx r gr) : SE Z cx (.BinOp l .Mult r pos) (eMul gl gr) := by
  intro m R A env c f σ α s k hR hA I hk Q hQ
  refine wpAny_BinOp (hl hR hA I hk _ fun a σ₁ v₁ α₁ h₁ t₁ hk₁ I₁ E₁ V₁ => hr hR hA I₁ hk₁ _ fun b σ₂ v₂ α₂ h₂ t₂ hk₂ I₂ E₂ V₂ => ?_)
  obtain ⟨x, rfl, q1⟩ := asInt_iff hk₂
  obtain ⟨y, rfl, q2⟩ := asInt_iff q1
  rcases ifB_iff q2 with ⟨hb, q3⟩ | ⟨_, q3⟩
  · rw [frcN_eq] at q3
    obtain ⟨t, rfl⟩ := V₁
    obtain ⟨u, rfl⟩ := V₂
    have hle := Nat.le_of_ble_eq_true hb
    exact PyProof.Rows.mul_int (hQ _ σ₂ _ α₂ h₂ _ q3 I₂ (E₁.trans E₂) ⟨_, rfl⟩) (IntMulOk.of_left (intBits_le_64 (by omega) (by omega)))
  · exact absurd q3 (by simp)
theorem SE.div {pos : Pos} {l r : PySem.Expr} {gl gr : GE} (hl : SE Z cx l gl) (hr : SE Z cx r gr) : SE Z cx (.BinOp l .FloorDiv r pos) (eDiv gl gr) := by
  intro m R A env c f σ α s k hR hA I hk Q hQ
  refine wpAny_BinOp (hl hR hA I hk _ fun a σ₁ v₁ α₁ h₁ t₁ hk₁ I₁ E₁ V₁ => hr hR hA I₁ hk₁ _ fun b σ₂ v₂ α₂ h₂ t₂ hk₂ I₂ E₂ V₂ => ?_)
  obtain ⟨x, rfl, q1⟩ := asInt_iff hk₂
  obtain ⟨y, rfl, q2⟩ := asInt_iff q1
  rcases ifB_iff q2 with ⟨hb, q3⟩ | ⟨_, q3⟩
  · rcases ifB_iff q3 with ⟨hb', q3⟩ | ⟨_, q3⟩
    case inr => exact absurd q3 (by simp)
    rw [frcN_eq] at q3
    have hle := Nat.le_of_ble_eq_true hb'
    obtain ⟨t, rfl⟩ := V₁
    obtain ⟨u, rfl⟩ := V₂
    have hlt : 0 < y := Nat.le_of_ble_eq_true hb
    refine floordiv_int (by omega) ?_
    rw [Int.fdiv_eq_ediv_of_nonneg _ (by omega)]
    exact hQ _ σ₂ _ α₂ h₂ _ q3 I₂ (E₁.trans E₂) ⟨_, rfl⟩
  · exact absurd q3 (by simp)
theorem SE.mod {pos : Pos} {l r : PySem.Expr} {gl gr : GE} (hl : SE Z cx l gl) (hr : SE Z cx r gr) : SE Z cx (.BinOp l .Mod r pos) (eMod gl gr) := by
  intro m R A env c f σ α s k hR hA I hk Q hQ
  refine wpAny_BinOp (hl hR hA I hk _ fun a σ₁ v₁ α₁ h₁ t₁ hk₁ I₁ E₁ V₁ => hr hR hA I₁ hk₁ _ fun b σ₂ v₂ α₂ h₂ t₂ hk₂ I₂ E₂ V₂ => ?_)
  obtain ⟨x, rfl, q1⟩ := asInt_iff hk₂
  obtain ⟨y, rfl, q2⟩ := asInt_iff q1
  rcases ifB_iff q2 with ⟨hb, q3⟩ | ⟨_, q3⟩
  · rcases ifB_iff q3 with ⟨hb', q3⟩ | ⟨_, q3⟩
    case inr => exact absurd q3 (by simp)
    rw [frcN_eq] at q3
    have hle := Nat.le_of_ble_eq_true hb'
    obtain ⟨t, rfl⟩ := V₁
    obtain ⟨u, rfl⟩ := V₂
    have hlt : 0 < y := Nat.le_of_ble_eq_true hb
    refine mod_int' (by omega) ?_
    rw [Int.fmod_eq_emod_of_nonneg _ (by omega)]
    exact hQ _ σ₂ _ α₂ h₂ _ q3 I₂ (E₁.trans E₂) ⟨_, rfl⟩
  · exact absurd q3 (by simp)

/-- one chain behind another -/
def app : DV → DV → DV
  | .cons x y, b => .cons x (app y b)
  | _, b => b
theorem appC_iff {b : DV} : ∀ {a : DV} {k : DV → Bool}, appC a b k = true → k (app a b) = true := by
  intro a
  induction a with
  | nil => intro k h; exact h
  | cons x y _ ih => intro k h; exact ih (k := fun t => k (.cons x t)) h
  | _ => intro k h; simp [appC] at h
theorem VI.app {α : List Addr} {h : Heap} {vs : List Value} {b : DV} (hb : VI α h vs b) : ∀ {a : DV} {us : List Value}, VI α h us a → VI α h (us ++ vs) (app a b)
  | .nil, us, e => by cases e; exact hb
  | .cons x y, us, ⟨u, us', e, h1, h2⟩ => by subst e; exact ⟨u, us' ++ vs, rfl, h1, VI.app hb h2⟩
  | .unb, _, x | .non, _, x | .bool _, _, x | .int _, _, x | .str _, _, x | .loc _, _, x | .rng _ _, _, x | .ditems _, _, x | .dvals _, _, x => x.elim
theorem IsTuple.tup {h : Heap} {a : Addr} {xs : Array Value} (t : h.IsTuple a xs) : IsTup h a xs := t
section
variable {prog : Program} {w : World} {A : Around} {E : Value → Shared → Prop} {s : Shared}
theorem addTup {t b : Addr} {vs ws : List Value} {Q : Value → Shared → Prop} (ht : s.heap.IsTuple t vs.toArray) (hb : s.heap.IsTuple b ws.toArray)
    (h : ∀ (a : Addr) (h' : Heap), (∀ x o, s.heap.get? x = some o → h'.get? x = some o) → h'.IsTuple a (vs ++ ws).toArray → Q (.ref a) { s with heap := h' })
    (hsz : vs.length + ws.length ≤ sizeLine) : wpAny (model prog w) A (binaryOp .Add (.ref t) (.ref b)) Q E s := by
  obtain ⟨⟨cls, dd, data, sl⟩, ho, hc, n, hd⟩ := id ht
  obtain ⟨⟨cls2, dd2, data2, sl2⟩, ho2, hc2, n2, hd2⟩ := id hb
  simp only at hc hd hc2 hd2
  subst hc hd hc2 hd2
  by_cases hv : vs = []
  · exact concat_meets ⟨_, ho, rfl⟩ ⟨_, ho2, rfl⟩ noFill_tuple_add seq_tuple_add PySem.F.slot_tuple_add PySem.F.entry_tuple_add (PySem.F.args_tuple_add_2 _ _)
      (tuple_addW0 t b vs.toArray ws.toArray n n2 dd dd2 sl sl2 (by simp [hv])) ⟨ho, ho2, h b s.heap (fun _ _ e => e) (by subst hv; exact hb)⟩
  · by_cases hw : ws = []
    · exact concat_meets ⟨_, ho, rfl⟩ ⟨_, ho2, rfl⟩ noFill_tuple_add seq_tuple_add PySem.F.slot_tuple_add PySem.F.entry_tuple_add (PySem.F.args_tuple_add_2 _ _)
        (tuple_addW1 t b vs.toArray ws.toArray n n2 dd dd2 sl sl2 (by simpa using hv) (by simp [hw])) ⟨ho, ho2, h t s.heap (fun _ _ e => e) (by subst hw; rw [List.append_nil]; exact ht)⟩
    · refine concat_meets ⟨_, ho, rfl⟩ ⟨_, ho2, rfl⟩ noFill_tuple_add seq_tuple_add PySem.F.slot_tuple_add PySem.F.entry_tuple_add (PySem.F.args_tuple_add_2 _ _)
        (tuple_addW2 t b vs.toArray ws.toArray n n2 dd dd2 sl sl2 (by simpa using hv) (by simpa using hw) (by rw [List.size_toArray, List.size_toArray]; exact hsz)) ⟨ho, ho2, ?_⟩
      exact h _ _ (push_keep _ _) ⟨_, Heap.get?_push_size _ rfl, rfl, 0, by simp⟩
theorem addList {l b : Addr} {vs ws : List Value} {Q : Value → Shared → Prop} (hl : s.heap.IsList l vs.toArray) (hb : s.heap.IsList b ws.toArray)
    (h : ∀ h' : Heap, (∀ x o, s.heap.get? x = some o → h'.get? x = some o) → IsL h' s.heap.objs.size (vs ++ ws).toArray → Q (.ref s.heap.objs.size) { s with heap := h' })
    (hsz : vs.length + ws.length ≤ sizeLine) : wpAny (model prog w) A (binaryOp .Add (.ref l) (.ref b)) Q E s := by
  obtain ⟨⟨cls, dd, data, sl⟩, ho, hc, n, hd⟩ := id hl
  obtain ⟨⟨cls2, dd2, data2, sl2⟩, ho2, hc2, n2, hd2⟩ := id hb
  simp only at hc hd hc2 hd2
  subst hc hd hc2 hd2
  refine concat_meets ⟨_, ho, rfl⟩ ⟨_, ho2, rfl⟩ noFill_list_add seq_list_add PySem.F.slot_list_add PySem.F.entry_list_add (PySem.F.args_list_add_2 _ _) (list_addW l b vs.toArray ws.toArray n n2 dd dd2 sl sl2 (by simpa using hsz)) ⟨ho, ho2, ?_⟩
  exact h _ (push_keep _ _) (IsL.made (n := 0) (by rw [show (vs ++ ws).toArray = vs.toArray ++ ws.toArray by simp]; exact Heap.get?_push_size _ rfl))
end
theorem line120 {n m : Nat} (h : n ≤ 60) (h' : m ≤ 60) : n + m ≤ sizeLine := by rw [sizeLine_eq]; omega
theorem Gr.of_app {b : DV} : ∀ {a : DV} {n : Nat}, Gr (app a b) n → ∀ {α h us}, VI α h us a → us.length ≤ n ∧ Gr b n := by
  intro a
  induction a with
  | nil => intro n g α h us e; cases e; exact ⟨Nat.zero_le _, g⟩
  | cons x y _ ih =>
    rintro n ⟨m, rfl, g1, g2⟩ α h us ⟨u, us', rfl, h1, h2⟩
    obtain ⟨h3, h4⟩ := ih g2 h2
    exact ⟨by rw [List.length_cons]; omega, h4.le (by omega)⟩
  | _ => intro n g α h us e; exact e.elim
theorem chB_iff {d : DV} {k : Bool} (h : chB d k = true) : Chain d ∧ k = true := by
  rcases asCh_iff (show asCh d k (fun _ _ => k) = true from h) with ⟨rfl, q⟩ | ⟨x, y, rfl, q⟩
  · exact ⟨trivial, q⟩
  · exact ⟨trivial, q⟩
theorem addK_iff {a b : DV} {k : DV → Bool} (h : addK a b k = true) : (∃ x y, a = .int x ∧ b = .int y ∧ k (.int (x + y)) = true) ∨ (Chain a ∧ Chain b ∧ Gr (app a b) 60 ∧ k (app a b) = true) := by
  cases a with
  | int x =>
    obtain ⟨y, rfl, q⟩ := asInt_iff (show asInt b (fun m => frcN (Nat.add x m) fun z => k (.int z)) = true from h)
    rw [frcN_eq] at q
    exact .inl ⟨x, y, rfl, rfl, q⟩
  | nil =>
    obtain ⟨cb, q⟩ := chB_iff (show chB b (ck b (k b)) = true from h)
    obtain ⟨g, q⟩ := ck_iff q
    exact .inr ⟨trivial, cb, g, q⟩
  | cons x y =>
    obtain ⟨cb, q⟩ := chB_iff (show chB b (appC (.cons x y) b (fun d => ck d <| k d)) = true from h)
    obtain ⟨g, q⟩ := ck_iff (appC_iff q)
    exact .inr ⟨trivial, cb, g, q⟩
  | _ => simp [addK] at h
theorem SE.add {pos : Pos} {l r : PySem.Expr} {gl gr : GE} (hl : SE Z cx l gl) (hr : SE Z cx r gr) : SE Z cx (.BinOp l .Add r pos) (eAdd gl gr) := by
  intro m R A env c f σ α s k hR hA I hk Q hQ
  refine wpAny_BinOp (hl hR hA I hk _ fun a σ₁ v₁ α₁ h₁ t₁ hk₁ I₁ E₁ V₁ => hr hR hA I₁ hk₁ _ fun b σ₂ v₂ α₂ h₂ t₂ hk₂ I₂ E₂ V₂ => ?_)
  rcases addK_iff hk₂ with ⟨x, y, rfl, rfl, q⟩ | ⟨ca, cb, g, q⟩
  · obtain ⟨t, rfl⟩ := V₁
    obtain ⟨u, rfl⟩ := V₂
    exact PyProof.Rows.add_int (hQ _ σ₂ _ α₂ h₂ _ q I₂ (E₁.trans E₂) ⟨_, rfl⟩)
  · obtain ⟨p, vs, rfl, ht, hv⟩ := (E₂.V V₁).asItems ca
    obtain ⟨p', ws, rfl, ht', hw⟩ := V₂.asItems cb
    obtain ⟨z1, gb⟩ := g.of_app hv
    refine addTup ht ht' (fun a' h' kk ht'' => ?_) (line120 z1 (gb.size hw))
    have im := ImmK.of_keep kk
    exact hQ _ σ₂ _ α₂ h' _ q (I₂.grow kk) ((E₁.trans E₂).trans (Ext.grow kk)) (V.tup (VI.app (hw.imm im) (hv.imm im)) ht'')
end
end Mine

set_option maxRecDepth 100000
namespace Mine
open PySem PySem.W PyProof.Rows PySem.Calls

variable {Z : Base}
section
variable {cx : Cx}
theorem lenC_iff {α : List Addr} {h : Heap} : ∀ {d : DV} {vs : List Value} {k : Nat → Bool}, VI α h vs d → lenC d k = true → k vs.length = true := by
  intro d
  induction d with
  | nil => intro vs k e q; cases e; exact q
  | cons x y _ ih =>
    rintro vs k ⟨u, us, rfl, _, h2⟩ q
    have q' := ih (k := fun n => frcN (Nat.add n 1) k) h2 q
    rw [frcN_eq] at q'
    rw [List.length_cons]
    exact q'
  | _ => intro vs k e; exact e.elim
theorem seqOf_iff {σ : Sto} {d : DV} {k : DV → Bool} (h : seqOf σ d k = true) : (∃ n l, d = .loc n ∧ σ[n]? = some (.list l) ∧ k l = true) ∨ (Chain d ∧ k d = true) := by
  cases d with
  | loc n =>
    obtain ⟨o, e, h⟩ := nthO_iff h
    obtain ⟨l, rfl, h⟩ := obL_iff h
    exact .inl ⟨n, l, rfl, e, h⟩
  | nil => exact .inr ⟨trivial, h⟩
  | cons x y => exact .inr ⟨trivial, h⟩
  | _ => simp [seqOf] at h
/-- the list that a place of the store stands for -/
theorem Inv.list {prog : Program} {w : World} {h₀ : Heap} {env : Env} {c f : Sl} {σ : Sto} {α : List Addr} {h : Heap} {v : Value} {n : Nat} {l : DV} (I : Inv prog w h₀ cx env c f σ α h) (r : V α h v (.loc n)) (e : σ[n]? = some (.list l)) :
    ∃ a vs, v = .ref a ∧ α[n]? = some a ∧ IsL h a (List.toArray vs) ∧ VI [] h vs l ∧ Gr l 60 := by
  obtain ⟨a, ha, rfl⟩ := r
  obtain ⟨vs, h1, h2, h3⟩ := I.sto.obj n a _ ha e
  exact ⟨a, vs, rfl, ha, h1, h2, h3⟩
theorem fit60 {n : Nat} (h : n ≤ 60) : ((n : Nat) : Int) < 2 ^ 63 := by omega
theorem SE.lenE {pos p1 : Pos} {x : Str} {e : PySem.Expr} {g : GE} (hg : globOf cx x = true) (hx : x = "len") (hs : NS e) (he : SE Z cx e g) : SE Z cx (.Call (.Name x p1) [e] [] pos) (eLenE g) := by
  subst hx
  intro m R A env c f σ α s k hR hA I hk Q hQ
  refine callBi (id := "len") I hg (by simp [bis]) (by decide) (fun y hy => by simp only [List.mem_singleton] at hy; subst hy; exact hs) (one hs (he hR hA I hk _ fun d σ₁ v α₁ h₁ t₁ hk₁ I₁ E₁ V₁ => ?_))
  rcases seqOf_iff hk₁ with ⟨n, l, rfl, e1, q⟩ | ⟨cd, q⟩
  · obtain ⟨g1, q⟩ := ck_iff q
    obtain ⟨a, vs, rfl, ha, hl, hv, hG⟩ := I₁.list V₁ e1
    have q' := lenC_iff hv q
    have hz := hG.size hv
    refine call_len_list hl.isList (by rw [List.size_toArray]; exact fit60 hz) (hQ _ σ₁ _ α₁ h₁ _ q' I₁ E₁ ⟨_, rfl⟩)
  · obtain ⟨g1, q⟩ := ck_iff q
    obtain ⟨a, vs, rfl, ht, hv⟩ := V₁.asItems cd
    have q' := lenC_iff hv q
    have hz := g1.size hv
    refine call_function_entry kind_len plain_len entry_len (args_len1 _) (len_entry_tuple ht (by rw [List.size_toArray]; exact fit60 hz) (hQ _ σ₁ _ α₁ h₁ _ q' I₁ E₁ ⟨_, rfl⟩))
theorem SE.lenL {pos p1 : Pos} {x : Str} {e : PySem.Expr} {g : GE} (hg : globOf cx x = true) (hx : x = "len") (hs : NS e) (he : SL Z cx e g) : SE Z cx (.Call (.Name x p1) [e] [] pos) (eLenL g) := by
  subst hx
  intro m R A env c f σ α s k hR hA I hk Q hQ
  refine callBi (id := "len") I hg (by simp [bis]) (by decide) (fun y hy => by simp only [List.mem_singleton] at hy; subst hy; exact hs) (one hs (he hR hA I hk _ fun d σ₁ a vs α₁ h₁ t₁ hk₁ I₁ E₁ L₁ V₁ f₁ n₁ => ?_))
  obtain ⟨g1, q⟩ := ck_iff hk₁
  have q' := lenC_iff V₁ q
  have hz := g1.size V₁
  refine call_len_list L₁.isList (by rw [List.size_toArray]; exact fit60 hz) (hQ _ σ₁ _ α₁ h₁ _ q' I₁ E₁ ⟨_, rfl⟩)
theorem SE.tupL {pos p1 : Pos} {x : Str} {e : PySem.Expr} {g : GE} (hg : globOf cx x = true) (hx : x = "tuple") (hs : NS e) (he : SL Z cx e g) : SE Z cx (.Call (.Name x p1) [e] [] pos) (eTupL g) := by
  subst hx
  intro m R A env c f σ α s k hR hA I hk Q hQ
  refine callTy (id := "tuple") I hg (by simp [bis]) (by decide) (fun y hy => by simp only [List.mem_singleton] at hy; subst hy; exact hs) (one hs (he hR hA I hk _ fun d σ₁ a vs α₁ h₁ t₁ hk₁ I₁ E₁ L₁ V₁ f₁ n₁ => ?_))
  obtain ⟨g1, q⟩ := ck_iff hk₁
  have hz := g1.size V₁
  refine call_tuple_list L₁.isList (fun h' kk => ?_) (by rw [List.size_toArray, sizeLine_eq]; omega)
  have k2 : ∀ b o, h₁.get? b = some o → (h'.push { cls := .type "tuple", data := .seq vs.toArray }).get? b = some o := fun b o e => push_keep _ _ b o (kk b o e)
  exact hQ d σ₁ _ α₁ _ _ q (I₁.grow k2) (E₁.trans (Ext.grow k2)) (V.tup (V₁.imm (ImmK.of_keep k2)) ⟨_, Heap.get?_push_size _ rfl, rfl, 0, rfl⟩)
theorem SE.rng1 {pos p1 : Pos} {x : Str} {e : PySem.Expr} {g : GE} (hg : globOf cx x = true) (hx : x = "range") (hs : NS e) (he : SE Z cx e g) : SE Z cx (.Call (.Name x p1) [e] [] pos) (eRng1 g) := by
  subst hx
  intro m R A env c f σ α s k hR hA I hk Q hQ
  refine callTy (id := "range") I hg (by simp [bis]) (by decide) (fun y hy => by simp only [List.mem_singleton] at hy; subst hy; exact hs) (one hs (he hR hA I hk _ fun d σ₁ v α₁ h₁ t₁ hk₁ I₁ E₁ V₁ => ?_))
  obtain ⟨n, rfl, q⟩ := asInt_iff hk₁
  rcases ifB_iff q with ⟨hb, q⟩ | ⟨_, q⟩
  · obtain ⟨t, rfl⟩ := V₁
    refine call_range_1 (hQ _ σ₁ _ α₁ _ _ q (I₁.grow (push_keep _ _)) (E₁.trans (Ext.grow (push_keep _ _))) ⟨h₁.objs.size, t₁, t, t₁ + 1, rfl, ?_⟩)
    have := IsRange.new h₁ 0 (n : Int) 1 t₁ t (t₁ + 1)
    simpa using this
  · exact absurd q (by simp)
theorem SE.rng2 {pos p1 : Pos} {x : Str} {a b : PySem.Expr} {ga gb : GE} (hg : globOf cx x = true) (hx : x = "range") (hs : NS a) (hs' : NS b) (ha : SE Z cx a ga) (hb : SE Z cx b gb) : SE Z cx (.Call (.Name x p1) [a, b] [] pos) (eRng2 ga gb) := by
  subst hx
  intro m R A env c f σ α s k hR hA I hk Q hQ
  refine callTy (id := "range") I hg (by simp [bis]) (by decide) (fun y hy => ?_) (two hs hs' (ha hR hA I hk _ fun d σ₁ v α₁ h₁ t₁ hk₁ I₁ E₁ V₁ => hb hR hA I₁ hk₁ _ fun d' σ₂ v' α₂ h₂ t₂ hk₂ I₂ E₂ V₂ => ?_))
  · simp only [List.mem_cons, List.not_mem_nil, or_false] at hy
    rcases hy with rfl | rfl
    · exact hs
    · exact hs'
  obtain ⟨n, rfl, q1⟩ := asInt_iff hk₂
  obtain ⟨n', rfl, q2⟩ := asInt_iff q1
  rcases ifB_iff q2 with ⟨hb, q3⟩ | ⟨_, q3⟩
  · rcases ifB_iff q3 with ⟨hb', q4⟩ | ⟨_, q4⟩
    · rw [frcN_eq] at q4
      obtain ⟨t, rfl⟩ := V₁
      obtain ⟨u, rfl⟩ := V₂
      have hle := Nat.le_of_ble_eq_true hb
      refine call_range_2 (hQ _ σ₂ _ α₂ _ _ q4 (I₂.grow (push_keep _ _)) ((E₁.trans E₂).trans (Ext.grow (push_keep _ _))) ⟨h₂.objs.size, t, u, t₂, rfl, ?_⟩)
      have := IsRange.new h₂ (n : Int) (n' : Int) 1 t u t₂
      rw [show (n : Int) + ((Nat.sub n' n : Nat) : Int) = (n' : Int) by show (n : Int) + ((n' - n : Nat) : Int) = _; omega]
      exact this
    · exact absurd q4 (by simp)
  · exact absurd q3 (by simp)
theorem SE.min {pos p1 : Pos} {x : Str} {a b : PySem.Expr} {ga gb : GE} (hg : globOf cx x = true) (hx : x = "min") (hs : NS a) (hs' : NS b) (ha : SE Z cx a ga) (hb : SE Z cx b gb) : SE Z cx (.Call (.Name x p1) [a, b] [] pos) (eMin ga gb) := by
  subst hx
  intro m R A env c f σ α s k hR hA I hk Q hQ
  refine callBi (id := "min") I hg (by simp [bis]) (by decide) (fun y hy => ?_) (two hs hs' (ha hR hA I hk _ fun d σ₁ v α₁ h₁ t₁ hk₁ I₁ E₁ V₁ => hb hR hA I₁ hk₁ _ fun d' σ₂ v' α₂ h₂ t₂ hk₂ I₂ E₂ V₂ => ?_))
  · simp only [List.mem_cons, List.not_mem_nil, or_false] at hy
    rcases hy with rfl | rfl
    · exact hs
    · exact hs'
  obtain ⟨n, rfl, q1⟩ := asInt_iff hk₂
  obtain ⟨n', rfl, q2⟩ := asInt_iff q1
  obtain ⟨t, rfl⟩ := V₁
  obtain ⟨u, rfl⟩ := V₂
  refine min_two_ints hA.hd fun h' tk kk => ?_
  rcases ifB_iff q2 with ⟨hb, q3⟩ | ⟨hb, q3⟩
  · have hlt : n' < n := Nat.le_of_ble_eq_true hb
    rw [if_pos (by omega)]
    exact hQ _ σ₂ _ α₂ _ _ q3 (I₂.grow kk) ((E₁.trans E₂).trans (Ext.grow kk)) ⟨_, rfl⟩
  · have hlt : ¬ n' < n := fun q => by
      have : Nat.blt n' n = true := Nat.ble_eq_true_of_le q
      rw [this] at hb; cases hb
    rw [if_neg (by omega)]
    exact hQ _ σ₂ _ α₂ _ _ q3 (I₂.grow kk) ((E₁.trans E₂).trans (Ext.grow kk)) ⟨_, rfl⟩
end
end Mine

set_option maxRecDepth 100000
namespace Mine
open PySem PySem.W PyProof.Rows PySem.Calls PySem.SeqAt

section
variable {prog : Program} {w : World} {E : Value → Shared → Prop}
/-- == of two data as the model's loops ask it -/
theorem eqAt_py {A : Around} {s : Shared} {u v : Value} {a b : DV} {n m : Nat} (ga : Gr a n) (gb : Gr b m) (hn : n ≤ 60) (hm : m ≤ 60) (ra : V [] s.heap u a) (rb : V [] s.heap v b) (hu : A.units + 65 < cLine) : EqAt A s u v (PyData.eqv (py a) (py b)) := by
  obtain ⟨as, r1⟩ := (reads_py a n ga).1 u ra
  obtain ⟨bs, r2⟩ := (reads_py b m gb).1 v rb
  obtain ⟨⟨c1, d1⟩, _⟩ := shape_py a n ga
  obtain ⟨⟨c2, d2⟩, _⟩ := shape_py b m gb
  refine eqAt_reads _ _ A s u v as bs r1 r2 c1 c2 ?_
  have := Nat.min_le_left (py a).depth (py b).depth
  omega
theorem VI.cases {α : List Addr} {h : Heap} {vs : List Value} : ∀ {d : DV}, VI α h vs d → (d = .nil ∧ vs = []) ∨ ∃ x y u us, d = .cons x y ∧ vs = u :: us ∧ V α h u x ∧ VI α h us y
  | .nil, e => .inl ⟨rfl, e⟩
  | .cons x y, ⟨u, us, e, h1, h2⟩ => .inr ⟨x, y, u, us, rfl, e, h1, h2⟩
  | .unb, x | .non, x | .bool _, x | .int _, x | .str _, x | .loc _, x | .rng _ _, x | .ditems _, x | .dvals _, x => x.elim
theorem VI.zip_nil {h : Heap} {us vs : List Value} : us.zip [] = ([] : List (Value × Value)) := by cases us <;> rfl
theorem lt_data : ∀ (n : Nat) (a b : DV) (x y : Bool) (m : Nat), n ≤ 60 → m ≤ 60 → Gr a n → Gr b m → ltD a b x y = true → ∀ (A : Around) (s : Shared) (va vb : Value), V [] s.heap va a → V [] s.heap vb b → A.units + n + 70 < cLine →
    ∀ Q : Value → Shared → Prop, (x = true → Q (.bool true) s) → (y = true → Q (.bool false) s) → wpAny (model prog w) A (richCompare .Lt va vb) Q E s := by
  intro n
  induction n using Nat.strongRecOn with
  | _ n ih =>
    intro a b x y m hn hm ga gb hlt A s va vb ra rb hu Q hx hy
    have tuples : Chain a → Chain b → wpAny (model prog w) A (richCompare .Lt va vb) Q E s := by
      intro ca cb
      obtain ⟨pa, us, rfl, ta, ia⟩ := ra.asItems ca
      obtain ⟨pb, vs, rfl, tb, ib⟩ := rb.asItems cb
      have hTa := ta.typeIs
      have hTb := tb.typeIs
      obtain ⟨oa, hoa, _, na, hda⟩ := ta
      obtain ⟨ob, hob, _, nb, hdb⟩ := tb
      refine wpAny_richCompare_same_room (op := .Lt) hTa hTb F.slot_tuple_lt (wpAny_call_entry F.slot_tuple_lt hTa F.entry_tuple_lt ?_ (F.args_tuple_lt_2 _ _)) (by omega)
      show wpAny _ _ (isInstance (.ref pb) (.type "tuple") >>= _) _ _ s
      refine wpAny_bind (wpAny_isInstance hTb isSubtype_tuple_tuple ?_)
      simp only [Bool.not_true, Bool.false_eq_true, if_false]
      refine wpAny_bind (wpAny_tupleItemsOf hoa hda ?_)
      refine wpAny_bind (wpAny_tupleItemsOf hob hdb ?_)
      refine wpAny_bind ?_
      refine wpAny_forIn_list _
        (fun rest r s' => r.1 = none ∧ s' = s ∧ ∃ a' b' us' vs' k k', rest = us'.zip vs' ∧ VI [] s.heap us' a' ∧ VI [] s.heap vs' b' ∧ k ≤ n ∧ k' ≤ m ∧ Gr a' k ∧ Gr b' k' ∧ ltD a' b' x y = true ∧ (us'.length < vs'.length ↔ us.length < vs.length))
        _ ?_ ?_ _ _ ⟨rfl, rfl, a, b, us, vs, n, m, by simp, ia, ib, Nat.le_refl _, Nat.le_refl _, ga, gb, hlt, Iff.rfl⟩
      · rintro ⟨u, v⟩ rest r s' ⟨hr, rfl, a', b', us', vs', k, k', hz, ia', ib', hk, hk', ga', gb', hl, hlen⟩
        rcases ia'.cases with ⟨rfl, rfl⟩ | ⟨a1, a2, u1, us1, rfl, rfl, ra1, ra2⟩
        · simp at hz
        rcases ib'.cases with ⟨rfl, rfl⟩ | ⟨b1, b2, v1, vs1, rfl, rfl, rb1, rb2⟩
        · simp at hz
        simp only [List.zip_cons_cons, List.cons.injEq, Prod.mk.injEq] at hz
        obtain ⟨⟨rfl, rfl⟩, rfl⟩ := hz
        obtain ⟨k, rfl, g1, g2⟩ := ga'
        obtain ⟨k', rfl, g3, g4⟩ := gb'
        have hl' : eqD a1 b1 (ltD a2 b2 x y) (ltD a1 b1 x y) = true := hl
        have hin : A.in1.units = A.units + 1 := rfl
        refine wpAny_bind (eqAt_py g1 g3 (by omega) (by omega) ra1 rb1 (by omega) prog w _ _ ?_)
        rcases (eqD_iff a1 b1 k k' g1 g3 (V.wf ra1) (V.wf rb1) hl').1 with ⟨e, q⟩ | ⟨e, q⟩
        · rw [e]
          simp only [Bool.not_true, Bool.false_eq_true, if_false]
          exact wpAny_pure ⟨rfl, rfl, a2, b2, us1, vs1, k, k', rfl, ra2, rb2, by omega, by omega, g2, g4, q, by simpa using hlen⟩
        · rw [e]
          simp only [Bool.not_false, if_true]
          refine wpAny_bind (wpAny_rule ?_)
          refine wpAny_bind (ih k (by omega) a1 b1 x y k' (by omega) (by omega) g1 g3 q A.in1 s' u v ra1 rb1 (by omega) _ (fun ex => ?_) fun ey => ?_)
          · exact wpAny_bind (wpAny_pure (wpAny_pure (wpAny_pure ⟨_, rfl, (fun e => nomatch e), hx ex⟩)))
          · exact wpAny_bind (wpAny_pure (wpAny_pure (wpAny_pure ⟨_, rfl, (fun e => nomatch e), hy ey⟩)))
      · rintro ⟨r1, r2⟩ s' ⟨hr, rfl, a', b', us', vs', k, k', hz, ia', ib', hk, hk', ga', gb', hl, hlen⟩
        simp only at hr
        subst hr
        refine wpAny_pure ⟨_, rfl, (fun e => nomatch e), ?_⟩
        rcases ia'.cases with ⟨rfl, rfl⟩ | ⟨a1, a2, u1, us1, rfl, rfl, ra1, ra2⟩
        · rcases ib'.cases with ⟨rfl, rfl⟩ | ⟨b1, b2, v1, vs1, rfl, rfl, rb1, rb2⟩
          · have hf : ¬ us.length < vs.length := fun q => absurd (hlen.mpr q) (by simp)
            show Q (.bool (decide (us.toArray.size < vs.toArray.size))) s'
            rw [List.size_toArray, List.size_toArray, decide_eq_false hf]
            exact hy hl
          · have hf : us.length < vs.length := hlen.mp (by simp)
            show Q (.bool (decide (us.toArray.size < vs.toArray.size))) s'
            rw [List.size_toArray, List.size_toArray, decide_eq_true hf]
            exact hx hl
        · rcases ib'.cases with ⟨rfl, rfl⟩ | ⟨b1, b2, v1, vs1, rfl, rfl, rb1, rb2⟩
          · have hf : ¬ us.length < vs.length := fun q => absurd (hlen.mpr q) (by simp)
            show Q (.bool (decide (us.toArray.size < vs.toArray.size))) s'
            rw [List.size_toArray, List.size_toArray, decide_eq_false hf]
            exact hy hl
          · simp at hz
    cases a with
    | int i =>
      obtain ⟨j, rfl, q⟩ := asInt_iff (show asInt b (fun m => ifB (Nat.blt i m) x y) = true from hlt)
      obtain ⟨t, rfl⟩ := ra
      obtain ⟨u, rfl⟩ := rb
      show wpAny _ _ (compareOp .Lt _ _) _ _ _
      refine PyProof.Rows.lt_int ?_
      rcases ifB_iff q with ⟨hb, q⟩ | ⟨hb, q⟩
      · have : i < j := Nat.le_of_ble_eq_true hb
        rw [decide_eq_true (by omega : (i : Int) < j)]
        exact hx q
      · have : ¬ i < j := fun q => by
          have : Nat.blt i j = true := Nat.ble_eq_true_of_le q
          rw [this] at hb; cases hb
        rw [decide_eq_false (by omega : ¬ (i : Int) < j)]
        exact hy q
    | nil =>
      refine tuples trivial ?_
      rcases asCh_iff (show asCh b y (fun _ _ => x) = true from hlt) with ⟨rfl, _⟩ | ⟨_, _, rfl, _⟩ <;> trivial
    | cons a1 a2 =>
      refine tuples trivial ?_
      rcases asCh_iff (show asCh b y (fun b1 b2 => eqD a1 b1 (ltD a2 b2 x y) (ltD a1 b1 x y)) = true from hlt) with ⟨rfl, _⟩ | ⟨_, _, rfl, _⟩ <;> trivial
    | _ => simp [ltD] at hlt
end
end Mine

set_option maxRecDepth 100000
namespace Mine
open PySem PySem.W PyProof.Rows PySem.Calls PySem.SeqAt

variable (Z : Base)
def SB (cx : Cx) (e : PySem.Expr) (g : GB) : Prop := ∀ {m : Nat} {R : FSem} {A : Around} {env : Env} {c f : Sl} {σ : Sto} {α : List Addr} {s : Shared} {kt kf : Sto → Bool},
  RS Z m R → Room m A → IN Z cx env c f σ α s.heap → g R c f σ kt kf = true → ∀ Q : Bool → Shared → Prop,
  (∀ σ' α' h' tk', kt σ' = true → IN Z cx env c f σ' α' h' → Ext cx env α s.heap α' h' → Q true { s with heap := h', toks := tk' }) →
  (∀ σ' α' h' tk', kf σ' = true → IN Z cx env c f σ' α' h' → Ext cx env α s.heap α' h' → Q false { s with heap := h', toks := tk' }) →
  wpAny (model Z.prog Z.w) A (isTrue e env (eval e env)) Q NoE s
variable {Z}
section
variable {cx : Cx}
theorem readsList {α : List Addr} {h : Heap} {a : Addr} {vs : List Value} {d : DV} {n : Nat} (L : IsL h a vs.toArray) (r : VI α h vs d) (g : Gr d n) : ∃ as, Reads h (.ref a) (.list (pyL d)) as := by
  obtain ⟨as, ra⟩ := (reads_py d n g).2 vs r
  obtain ⟨k, ho⟩ := L
  exact ⟨_, reads_list_at ho rfl rfl (by rw [List.toList_toArray]; exact ra)⟩
/-- a list stays where it is none of the frame's own -/
theorem keepList {env : Env} {α α' : List Addr} {h h' : Heap} {a : Addr} {xs : Array Value} (E : Ext cx env α h α' h') (no : ¬ Own cx env α a) (L : IsL h a xs) : IsL h' a xs := by
  obtain ⟨k, ho⟩ := L
  exact ⟨k, E.keep a _ ho no⟩
theorem eqvL {a b : DV} : PyData.eqv (.list (pyL a)) (.list (pyL b)) = PyData.eqvAll (pyL a) (pyL b) := by rw [PyData.eqv]
theorem chain_eqv {a b : DV} (ca : Chain a) (cb : Chain b) : PyData.eqv (py a) (py b) = PyData.eqvAll (pyL a) (pyL b) := by rw [py_chain ca, py_chain cb, PyData.eqv]

theorem SB.eq {pos : Pos} {l r : PySem.Expr} {gl gr : GE} (hm : ∀ op, behindInMarks op r = false) (hl : SE Z cx l gl) (hr : SE Z cx r gr) : SB Z cx (.Compare l [.Eq] [r] pos) (bEq gl gr) := by
  intro m R A env c f σ α s kt kf hR hA I hk Q ht hf
  refine wpAny_isTrue_Compare1 (hl hR hA I hk _ fun a σ₁ v₁ α₁ h₁ t₁ hk₁ I₁ E₁ V₁ => hr hR hA I₁ hk₁ _ fun b σ₂ v₂ α₂ h₂ t₂ hk₂ I₂ E₂ V₂ => ?_) (hm _)
  obtain ⟨ga, q⟩ := ck_iff hk₂
  obtain ⟨gb, q⟩ := ck_iff q
  obtain ⟨as, r1⟩ := (reads_py a 60 ga).1 _ (E₂.V V₁)
  obtain ⟨bs, r2⟩ := (reads_py b 60 gb).1 _ V₂
  refine compareEq_shaped r1 r2 (shaped_py ga) (shaped_py gb) hA.u64 (wpAny_truthy_bool ?_)
  rcases (eqD_iff a b 60 60 ga gb V₁.wf V₂.wf q).1 with ⟨e, q⟩ | ⟨e, q⟩ <;> rw [e]
  · exact ht _ _ _ _ q I₂ (E₁.trans E₂)
  · exact hf _ _ _ _ q I₂ (E₁.trans E₂)
theorem SB.ne {pos : Pos} {l r : PySem.Expr} {gl gr : GE} (hm : ∀ op, behindInMarks op r = false) (hl : SE Z cx l gl) (hr : SE Z cx r gr) : SB Z cx (.Compare l [.NotEq] [r] pos) (bNe gl gr) := by
  intro m R A env c f σ α s kt kf hR hA I hk Q ht hf
  refine wpAny_isTrue_Compare1 (hl hR hA I hk _ fun a σ₁ v₁ α₁ h₁ t₁ hk₁ I₁ E₁ V₁ => hr hR hA I₁ hk₁ _ fun b σ₂ v₂ α₂ h₂ t₂ hk₂ I₂ E₂ V₂ => ?_) (hm _)
  obtain ⟨ga, q⟩ := ck_iff hk₂
  obtain ⟨gb, q⟩ := ck_iff q
  obtain ⟨as, r1⟩ := (reads_py a 60 ga).1 _ (E₂.V V₁)
  obtain ⟨bs, r2⟩ := (reads_py b 60 gb).1 _ V₂
  refine compareNe_shaped r1 r2 (shaped_py ga) (shaped_py gb) hA.u64 (wpAny_truthy_bool ?_)
  rcases (eqD_iff a b 60 60 ga gb V₁.wf V₂.wf q).1 with ⟨e, q⟩ | ⟨e, q⟩ <;> rw [e]
  · exact hf _ _ _ _ q I₂ (E₁.trans E₂)
  · exact ht _ _ _ _ q I₂ (E₁.trans E₂)
theorem SB.eqL {pos : Pos} {l r : PySem.Expr} {gl gr : GE} (hm : ∀ op, behindInMarks op r = false) (hl : SL Z cx l gl) (hr : SL Z cx r gr) : SB Z cx (.Compare l [.Eq] [r] pos) (bEq gl gr) := by
  intro m R A env c f σ α s kt kf hR hA I hk Q ht hf
  refine wpAny_isTrue_Compare1 (hl hR hA I hk _ fun a σ₁ x₁ vs₁ α₁ h₁ t₁ hk₁ I₁ E₁ L₁ V₁ f₁ n₁ => hr hR hA I₁ hk₁ _ fun b σ₂ x₂ vs₂ α₂ h₂ t₂ hk₂ I₂ E₂ L₂ V₂ f₂ n₂ => ?_) (hm _)
  obtain ⟨ga, q⟩ := ck_iff hk₂
  obtain ⟨gb, q⟩ := ck_iff q
  obtain ⟨as, r1⟩ := readsList (keepList E₂ n₁ L₁) (E₂.VI V₁) ga
  obtain ⟨bs, r2⟩ := readsList L₂ V₂ gb
  refine compareEq_shaped r1 r2 (shaped_list ga) (shaped_list gb) hA.u64 (wpAny_truthy_bool ?_)
  rw [eqvL, ← chain_eqv V₁.chain V₂.chain]
  rcases (eqD_iff a b 60 60 ga gb V₁.wf V₂.wf q).1 with ⟨e, q⟩ | ⟨e, q⟩ <;> rw [e]
  · exact ht _ _ _ _ q I₂ (E₁.trans E₂)
  · exact hf _ _ _ _ q I₂ (E₁.trans E₂)
theorem SB.neL {pos : Pos} {l r : PySem.Expr} {gl gr : GE} (hm : ∀ op, behindInMarks op r = false) (hl : SL Z cx l gl) (hr : SL Z cx r gr) : SB Z cx (.Compare l [.NotEq] [r] pos) (bNe gl gr) := by
  intro m R A env c f σ α s kt kf hR hA I hk Q ht hf
  refine wpAny_isTrue_Compare1 (hl hR hA I hk _ fun a σ₁ x₁ vs₁ α₁ h₁ t₁ hk₁ I₁ E₁ L₁ V₁ f₁ n₁ => hr hR hA I₁ hk₁ _ fun b σ₂ x₂ vs₂ α₂ h₂ t₂ hk₂ I₂ E₂ L₂ V₂ f₂ n₂ => ?_) (hm _)
  obtain ⟨ga, q⟩ := ck_iff hk₂
  obtain ⟨gb, q⟩ := ck_iff q
  obtain ⟨as, r1⟩ := readsList (keepList E₂ n₁ L₁) (E₂.VI V₁) ga
  obtain ⟨bs, r2⟩ := readsList L₂ V₂ gb
  refine compareNe_shaped r1 r2 (shaped_list ga) (shaped_list gb) hA.u64 (wpAny_truthy_bool ?_)
  rw [eqvL, ← chain_eqv V₁.chain V₂.chain]
  rcases (eqD_iff a b 60 60 ga gb V₁.wf V₂.wf q).1 with ⟨e, q⟩ | ⟨e, q⟩ <;> rw [e]
  · exact hf _ _ _ _ q I₂ (E₁.trans E₂)
  · exact ht _ _ _ _ q I₂ (E₁.trans E₂)
theorem SB.eqEL {pos : Pos} {l r : PySem.Expr} {gl gr : GE} (hm : ∀ op, behindInMarks op r = false) (hl : SE Z cx l gl) (hr : SL Z cx r gr) : SB Z cx (.Compare l [.Eq] [r] pos) (bEqEL gl gr) := by
  intro m R A env c f σ α s kt kf hR hA I hk Q ht hf
  refine wpAny_isTrue_Compare1 (hl hR hA I hk _ fun a σ₁ v₁ α₁ h₁ t₁ hk₁ I₁ E₁ V₁ => hr hR hA I₁ hk₁ _ fun b σ₂ x₂ vs₂ α₂ h₂ t₂ hk₂ I₂ E₂ L₂ V₂ f₂ n₂ => ?_) (hm _)
  obtain ⟨n, l, rfl, e, q⟩ := listAt_iff hk₂
  obtain ⟨gb, q⟩ := ck_iff q
  obtain ⟨a, vs, rfl, ha, L, Vl, gl⟩ := I₂.list (E₂.V V₁) e
  obtain ⟨as, r1⟩ := readsList L Vl gl
  obtain ⟨bs, r2⟩ := readsList L₂ V₂ gb
  refine compareEq_shaped r1 r2 (shaped_list gl) (shaped_list gb) hA.u64 (wpAny_truthy_bool ?_)
  rw [eqvL, ← chain_eqv Vl.chain V₂.chain]
  rcases (eqD_iff l b 60 60 gl gb Vl.wf V₂.wf q).1 with ⟨e, q⟩ | ⟨e, q⟩ <;> rw [e]
  · exact ht _ _ _ _ q I₂ (E₁.trans E₂)
  · exact hf _ _ _ _ q I₂ (E₁.trans E₂)
theorem SB.neEL {pos : Pos} {l r : PySem.Expr} {gl gr : GE} (hm : ∀ op, behindInMarks op r = false) (hl : SE Z cx l gl) (hr : SL Z cx r gr) : SB Z cx (.Compare l [.NotEq] [r] pos) (bNeEL gl gr) := by
  intro m R A env c f σ α s kt kf hR hA I hk Q ht hf
  refine wpAny_isTrue_Compare1 (hl hR hA I hk _ fun a σ₁ v₁ α₁ h₁ t₁ hk₁ I₁ E₁ V₁ => hr hR hA I₁ hk₁ _ fun b σ₂ x₂ vs₂ α₂ h₂ t₂ hk₂ I₂ E₂ L₂ V₂ f₂ n₂ => ?_) (hm _)
  obtain ⟨n, l, rfl, e, q⟩ := listAt_iff hk₂
  obtain ⟨gb, q⟩ := ck_iff q
  obtain ⟨a, vs, rfl, ha, L, Vl, gl⟩ := I₂.list (E₂.V V₁) e
  obtain ⟨as, r1⟩ := readsList L Vl gl
  obtain ⟨bs, r2⟩ := readsList L₂ V₂ gb
  refine compareNe_shaped r1 r2 (shaped_list gl) (shaped_list gb) hA.u64 (wpAny_truthy_bool ?_)
  rw [eqvL, ← chain_eqv Vl.chain V₂.chain]
  rcases (eqD_iff l b 60 60 gl gb Vl.wf V₂.wf q).1 with ⟨e, q⟩ | ⟨e, q⟩ <;> rw [e]
  · exact hf _ _ _ _ q I₂ (E₁.trans E₂)
  · exact ht _ _ _ _ q I₂ (E₁.trans E₂)
theorem SB.lt {pos : Pos} {l r : PySem.Expr} {gl gr : GE} (hm : ∀ op, behindInMarks op r = false) (hl : SE Z cx l gl) (hr : SE Z cx r gr) : SB Z cx (.Compare l [.Lt] [r] pos) (bLt gl gr) := by
  intro m R A env c f σ α s kt kf hR hA I hk Q ht hf
  refine wpAny_isTrue_Compare1 (hl hR hA I hk _ fun a σ₁ v₁ α₁ h₁ t₁ hk₁ I₁ E₁ V₁ => hr hR hA I₁ hk₁ _ fun b σ₂ v₂ α₂ h₂ t₂ hk₂ I₂ E₂ V₂ => ?_) (hm _)
  obtain ⟨ga, q⟩ := ck_iff hk₂
  obtain ⟨gb, q⟩ := ck_iff q
  show wpAny _ _ (richCompare .Lt v₁ v₂) _ _ _
  refine lt_data 60 a b _ _ 60 (by omega) (by omega) ga gb q A _ v₁ v₂ (V.ground (E₂.V V₁) ga) (V.ground V₂ gb) (by have := hA.un; omega) _ (fun q => wpAny_truthy_bool ?_) (fun q => wpAny_truthy_bool ?_)
  · exact ht _ _ _ _ q I₂ (E₁.trans E₂)
  · exact hf _ _ _ _ q I₂ (E₁.trans E₂)
theorem SB.gt {pos : Pos} {l r : PySem.Expr} {gl gr : GE} (hm : ∀ op, behindInMarks op r = false) (hl : SE Z cx l gl) (hr : SE Z cx r gr) : SB Z cx (.Compare l [.Gt] [r] pos) (bGt gl gr) := by
  intro m R A env c f σ α s kt kf hR hA I hk Q ht hf
  refine wpAny_isTrue_Compare1 (hl hR hA I hk _ fun a σ₁ v₁ α₁ h₁ t₁ hk₁ I₁ E₁ V₁ => hr hR hA I₁ hk₁ _ fun b σ₂ v₂ α₂ h₂ t₂ hk₂ I₂ E₂ V₂ => ?_) (hm _)
  obtain ⟨x, rfl, q1⟩ := asInt_iff hk₂
  obtain ⟨y, rfl, q2⟩ := asInt_iff q1
  obtain ⟨t, rfl⟩ := V₁
  obtain ⟨u, rfl⟩ := V₂
  refine PyProof.Rows.gt_int (wpAny_truthy_bool ?_)
  rcases ifB_iff q2 with ⟨hb, q⟩ | ⟨hb, q⟩
  · have hlt : y < x := Nat.le_of_ble_eq_true hb
    rw [decide_eq_true (by omega : (y : Int) < x)]
    exact ht _ _ _ _ q I₂ (E₁.trans E₂)
  · have hlt : ¬ y < x := fun q => by
      have : Nat.blt y x = true := Nat.ble_eq_true_of_le q
      rw [this] at hb; cases hb
    rw [decide_eq_false (by omega : ¬ (y : Int) < x)]
    exact hf _ _ _ _ q I₂ (E₁.trans E₂)

-- in
theorem inD_iff {x y : Bool} {a : DV} (ga : Gr a 60) (wa : WF a) : ∀ (l : DV) (n : Nat), Gr l n → n ≤ 60 → WF l → Chain l → inD a l x y = true →
    (((pyL l).any fun z => PyData.eqv z (py a)) = true ∧ x = true) ∨ (((pyL l).any fun z => PyData.eqv z (py a)) = false ∧ y = true) := by
  intro l
  induction l with
  | nil => intro n _ _ _ _ h; exact .inr ⟨rfl, h⟩
  | cons b r _ ih =>
    rintro n ⟨m, rfl, g1, g2⟩ hn ⟨w1, w2, cr⟩ _ h
    have h' : eqD b a x (inD a r x y) = true := h
    show (((py b :: pyL r).any fun z => PyData.eqv z (py a)) = true ∧ x = true) ∨ (((py b :: pyL r).any fun z => PyData.eqv z (py a)) = false ∧ y = true)
    rw [List.any_cons]
    rcases (eqD_iff b a m 60 g1 ga w1 wa h').1 with ⟨e, q⟩ | ⟨e, q⟩
    · rw [e]; exact .inl ⟨rfl, q⟩
    · rw [e, Bool.false_or]
      exact ih m g2 (by omega) w2 cr q
  | _ => intro n _ _ _ c; exact c.elim
theorem room_in {A : Around} {m : Nat} (hA : Room m A) {a l : DV} (ga : Gr a 60) : A.units + 1 + min (PyData.depthAll (pyL l)) (py a).depth < cLine := by
  have := Nat.min_le_right (PyData.depthAll (pyL l)) (py a).depth
  have h2 := (shape_py a 60 ga).1.2
  have := hA.un
  omega
theorem SB.inL {pos : Pos} {l r : PySem.Expr} {gl gr : GE} (hm : ∀ op, behindInMarks op r = false) (hl : SE Z cx l gl) (hr : SL Z cx r gr) : SB Z cx (.Compare l [.In] [r] pos) (bInL gl gr) := by
  intro m R A env c f σ α s kt kf hR hA I hk Q ht hf
  refine wpAny_isTrue_Compare1 (hl hR hA I hk _ fun a σ₁ v₁ α₁ h₁ t₁ hk₁ I₁ E₁ V₁ => hr hR hA I₁ hk₁ _ fun b σ₂ x₂ vs₂ α₂ h₂ t₂ hk₂ I₂ E₂ L₂ V₂ f₂ n₂ => ?_) (hm _)
  obtain ⟨ga, q⟩ := ck_iff hk₂
  obtain ⟨gb, q⟩ := ck_iff q
  obtain ⟨as, r1⟩ := (reads_py a 60 ga).1 _ (E₂.V V₁)
  obtain ⟨bs, r2⟩ := readsList L₂ V₂ gb
  refine in_list_reads r2 r1 (shape_py b 60 gb).2.1 (shape_py a 60 ga).1.1 (room_in hA ga) (wpAny_truthy_bool ?_)
  rcases inD_iff ga V₁.wf b 60 gb (by omega) V₂.wf V₂.chain q with ⟨e, q⟩ | ⟨e, q⟩ <;> rw [e]
  · exact ht _ _ _ _ q I₂ (E₁.trans E₂)
  · exact hf _ _ _ _ q I₂ (E₁.trans E₂)
theorem SB.notInL {pos : Pos} {l r : PySem.Expr} {gl gr : GE} (hm : ∀ op, behindInMarks op r = false) (hl : SE Z cx l gl) (hr : SL Z cx r gr) : SB Z cx (.Compare l [.NotIn] [r] pos) (bNotInL gl gr) := by
  intro m R A env c f σ α s kt kf hR hA I hk Q ht hf
  refine wpAny_isTrue_Compare1 (hl hR hA I hk _ fun a σ₁ v₁ α₁ h₁ t₁ hk₁ I₁ E₁ V₁ => hr hR hA I₁ hk₁ _ fun b σ₂ x₂ vs₂ α₂ h₂ t₂ hk₂ I₂ E₂ L₂ V₂ f₂ n₂ => ?_) (hm _)
  obtain ⟨ga, q⟩ := ck_iff hk₂
  obtain ⟨gb, q⟩ := ck_iff q
  obtain ⟨as, r1⟩ := (reads_py a 60 ga).1 _ (E₂.V V₁)
  obtain ⟨bs, r2⟩ := readsList L₂ V₂ gb
  refine notIn_list_reads r2 r1 (shape_py b 60 gb).2.1 (shape_py a 60 ga).1.1 (room_in hA ga) (wpAny_truthy_bool ?_)
  rcases inD_iff ga V₁.wf b 60 gb (by omega) V₂.wf V₂.chain q with ⟨e, q⟩ | ⟨e, q⟩ <;> rw [e]
  · exact hf _ _ _ _ q I₂ (E₁.trans E₂)
  · exact ht _ _ _ _ q I₂ (E₁.trans E₂)
theorem SB.notIn {pos : Pos} {l r : PySem.Expr} {gl gr : GE} (hm : ∀ op, behindInMarks op r = false) (hl : SE Z cx l gl) (hr : SE Z cx r gr) : SB Z cx (.Compare l [.NotIn] [r] pos) (bNotIn gl gr) := by
  intro m R A env c f σ α s kt kf hR hA I hk Q ht hf
  refine wpAny_isTrue_Compare1 (hl hR hA I hk _ fun a σ₁ v₁ α₁ h₁ t₁ hk₁ I₁ E₁ V₁ => hr hR hA I₁ hk₁ _ fun b σ₂ v₂ α₂ h₂ t₂ hk₂ I₂ E₂ V₂ => ?_) (hm _)
  obtain ⟨n, l, rfl, e, q⟩ := listAt_iff hk₂
  obtain ⟨ga, q⟩ := ck_iff q
  obtain ⟨p, vs, rfl, hp, L, Vl, gl⟩ := I₂.list V₂ e
  obtain ⟨as, r1⟩ := (reads_py a 60 ga).1 _ (E₂.V V₁)
  obtain ⟨bs, r2⟩ := readsList L Vl gl
  refine notIn_list_reads r2 r1 (shape_py l 60 gl).2.1 (shape_py a 60 ga).1.1 (room_in hA ga) (wpAny_truthy_bool ?_)
  rcases inD_iff ga V₁.wf l 60 gl (by omega) Vl.wf Vl.chain q with ⟨e, q⟩ | ⟨e, q⟩ <;> rw [e]
  · exact hf _ _ _ _ q I₂ (E₁.trans E₂)
  · exact ht _ _ _ _ q I₂ (E₁.trans E₂)
end
end Mine

set_option maxRecDepth 100000
namespace Mine
open PySem PySem.W PyProof.Rows PySem.Calls PySem.SeqAt

variable {Z : Base}
section
variable {cx : Cx}
-- is, truth, or, and
theorem SB.is {pos : Pos} {l r : PySem.Expr} {gl gr : GE} (hm : ∀ op, behindInMarks op r = false) (hl : SE Z cx l gl) (hr : SE Z cx r gr) : SB Z cx (.Compare l [.Is] [r] pos) (bIs gl gr) := by
  intro m R A env c f σ α s kt kf hR hA I hk Q ht hf
  refine wpAny_isTrue_Compare1 (hl hR hA I hk _ fun a σ₁ v₁ α₁ h₁ t₁ hk₁ I₁ E₁ V₁ => hr hR hA I₁ hk₁ _ fun b σ₂ v₂ α₂ h₂ t₂ hk₂ I₂ E₂ V₂ => ?_) (hm _)
  have V₁' := E₂.V V₁
  cases a with
  | non =>
    cases b with
    | non =>
      cases V₁'; cases V₂
      exact is_none (wpAny_truthy_bool (ht _ _ _ _ hk₂ I₂ (E₁.trans E₂)))
    | _ => exact absurd hk₂ (by simp)
  | int n =>
    cases b with
    | non =>
      obtain ⟨t, rfl⟩ := V₁'
      cases V₂
      exact is_none (wpAny_truthy_bool (hf _ _ _ _ hk₂ I₂ (E₁.trans E₂)))
    | _ => exact absurd hk₂ (by simp)
  | _ => exact absurd hk₂ (by simp)
theorem SB.val {e : PySem.Expr} {g : GE} (hv : ∀ env whole, isTrue e env whole = (do let v ← whole; standAt e.pos; holding [v] (truthy v))) (he : SE Z cx e g) : SB Z cx e (bVal g) := by
  intro m R A env c f σ α s kt kf hR hA I hk Q ht hf
  refine wpAny_isTrue_value (he hR hA I hk _ fun a σ₁ v₁ α₁ h₁ t₁ hk₁ I₁ E₁ V₁ => ?_) (hv _ _)
  cases a with
  | bool b =>
    cases V₁
    rcases ifB_iff hk₁ with ⟨rfl, q⟩ | ⟨rfl, q⟩
    · exact wpAny_truthy_bool (ht _ _ _ _ q I₁ E₁)
    · exact wpAny_truthy_bool (hf _ _ _ _ q I₁ E₁)
  | _ => exact absurd hk₁ (by simp)
variable (Z cx) in
def SOp (op : BoolOp) (es : List PySem.Expr) (g : GB) : Prop := ∀ {m : Nat} {R : FSem} {A : Around} {env : Env} {c f : Sl} {σ : Sto} {α : List Addr} {s : Shared} {kt kf : Sto → Bool},
  RS Z m R → Room m A → IN Z cx env c f σ α s.heap → g R c f σ kt kf = true → ∀ Q : Bool → Shared → Prop,
  (∀ σ' α' h' tk', kt σ' = true → IN Z cx env c f σ' α' h' → Ext cx env α s.heap α' h' → Q true { s with heap := h', toks := tk' }) →
  (∀ σ' α' h' tk', kf σ' = true → IN Z cx env c f σ' α' h' → Ext cx env α s.heap α' h' → Q false { s with heap := h', toks := tk' }) →
  wpAny (model Z.prog Z.w) A (allTrue op es env) Q NoE s
theorem SOr.nil : SOp Z cx .Or [] bFalse := fun {m R A env c f σ α s kt kf} hR hA I hk Q ht hf => wpAny_allTrue_Or_nil (hf _ _ s.heap s.toks hk I Ext.refl)
theorem SAnd.nil : SOp Z cx .And [] bTrue := fun {m R A env c f σ α s kt kf} hR hA I hk Q ht hf => wpAny_allTrue_And_nil (ht _ _ s.heap s.toks hk I Ext.refl)
theorem SOr.cons {e : PySem.Expr} {es : List PySem.Expr} {b r : GB} (he : SB Z cx e b) (hes : SOp Z cx .Or es r) : SOp Z cx .Or (e :: es) (bOr b r) :=
  fun {m R A env c f σ α s kt kf} hR hA I hk Q ht hf => wpAny_allTrue_Or_cons (he hR hA I hk _ (fun σ' α' h' tk' q I' E' => ht _ _ _ _ q I' E')
    fun σ' α' h' tk' q I' E' => hes hR hA I' q _ (fun σ₂ α₂ h₂ t₂ q₂ I₂ E₂ => ht _ _ _ _ q₂ I₂ (E'.trans E₂)) fun σ₂ α₂ h₂ t₂ q₂ I₂ E₂ => hf _ _ _ _ q₂ I₂ (E'.trans E₂))
theorem SAnd.cons {e : PySem.Expr} {es : List PySem.Expr} {b r : GB} (he : SB Z cx e b) (hes : SOp Z cx .And es r) : SOp Z cx .And (e :: es) (bAnd b r) :=
  fun {m R A env c f σ α s kt kf} hR hA I hk Q ht hf => wpAny_allTrue_And_cons (he hR hA I hk _
    (fun σ' α' h' tk' q I' E' => hes hR hA I' q _ (fun σ₂ α₂ h₂ t₂ q₂ I₂ E₂ => ht _ _ _ _ q₂ I₂ (E'.trans E₂)) fun σ₂ α₂ h₂ t₂ q₂ I₂ E₂ => hf _ _ _ _ q₂ I₂ (E'.trans E₂))
    (fun σ' α' h' tk' q I' E' => hf _ _ _ _ q I' E'))
theorem SB.or {pos : Pos} {es : List PySem.Expr} {g : GB} (h : SOp Z cx .Or es g) : SB Z cx (.BoolOp .Or es pos) g :=
  fun {m R A env c f σ α s kt kf} hR hA I hk Q ht hf => wpAny_isTrue_BoolOp (h hR hA I hk Q ht hf)
theorem SB.and {pos : Pos} {es : List PySem.Expr} {g : GB} (h : SOp Z cx .And es g) : SB Z cx (.BoolOp .And es pos) g :=
  fun {m R A env c f σ α s kt kf} hR hA I hk Q ht hf => wpAny_isTrue_BoolOp (h hR hA I hk Q ht hf)
theorem SE.ite {pos : Pos} {t a b : PySem.Expr} {gt : GB} {ga gb : GE} (ht : SB Z cx t gt) (ha : SE Z cx a ga) (hb : SE Z cx b gb) : SE Z cx (.IfExp t a b pos) (eIte gt ga gb) :=
  fun {m R A env c f σ α s k} hR hA I hk Q hQ => wpAny_IfExp (ht hR hA I hk _
    (fun σ' α' h' tk' q I' E' => ha hR hA I' q _ fun d σ₂ v α₂ h₂ t₂ q₂ I₂ E₂ V₂ => hQ d σ₂ v α₂ h₂ t₂ q₂ I₂ (E'.trans E₂) V₂)
    fun σ' α' h' tk' q I' E' => hb hR hA I' q _ fun d σ₂ v α₂ h₂ t₂ q₂ I₂ E₂ V₂ => hQ d σ₂ v α₂ h₂ t₂ q₂ I₂ (E'.trans E₂) V₂)

-- subscripts
theorem nthC_iff {α : List Addr} {h : Heap} : ∀ {d : DV} {n : Nat} {vs : List Value} {k : DV → Bool}, VI α h vs d → nthC d n k false = true → ∃ x v, vs[n]? = some v ∧ V α h v x ∧ k x = true := by
  intro d
  induction d with
  | nil => intro n vs k _ q; exact absurd q (by simp [nthC])
  | cons x y _ ih =>
    rintro n vs k ⟨u, us, rfl, h1, h2⟩ q
    cases n with
    | zero => exact ⟨x, u, rfl, h1, q⟩
    | succ n =>
      obtain ⟨z, v, e, r, q'⟩ := ih (n := n) h2 q
      exact ⟨z, v, by simpa using e, r, q'⟩
  | _ => intro n vs k e; exact e.elim
theorem subsGo {A : Around} {env : Env} {s : Shared} {o i : PySem.Expr} {pos : Pos} {Q : Value → Shared → Prop} (hs : ∀ x y, subscripted i false x y = operate [x, y] (getItem x y))
    (h : wpAny (model Z.prog Z.w) A (eval o env) (fun x s₁ => wpAny (model Z.prog Z.w) A (eval i env) (fun y s₂ => ∃ T id, typeLookup (.type T) "__getitem__" = pure (some (.builtin id)) ∧ s₂.TypeIs x T ∧ wpAny (model Z.prog Z.w) A (getItem x y) Q NoE s₂) NoE s₁) NoE s) :
    wpAny (model Z.prog Z.w) A (eval (.Subscript o i pos) env) Q NoE s := by
  rw [eval_Subscript]
  refine wpAny_bind (wpAny_mono h (fun x s₁ h₁ => wpAny_bind (wpAny_holding (wpAny_mono h₁ (fun y s₂ h₂ => wpAny_bind (wpAny_standAt ?_)) fun _ _ x => x))) fun _ _ x => x)
  obtain ⟨T, id, hl, hT, hg⟩ := h₂
  refine wpAny_bind ?_
  rw [getitemInPython_of_ne hT.not_modules]
  refine wpAny_bind (wpAny_specialOf hT hl ?_)
  have fin : wpAny (model Z.prog Z.w) A (operate [x, y] (getItem x y)) (fun r s₃ => wpAny (model Z.prog Z.w) A (letTemporaryGo o x r >>= fun _ => pure r) Q NoE s₃) NoE s₂ :=
    wpAny_operating (wpAny_mono hg (fun r s₃ h₃ => wpAny_bind (wpAny_letTemporaryGo (wpAny_pure h₃))) fun _ _ x => x)
  first
    | exact wpAny_pure (wpAny_bind (by rw [hs]; exact fin))
    | exact wpAny_bind (wpAny_pure (wpAny_bind (by rw [hs]; exact fin)))
theorem SE.subs {pos : Pos} {o i : PySem.Expr} {go gi : GE} (hs : ∀ x y, subscripted i false x y = operate [x, y] (getItem x y)) (ho : SE Z cx o go) (hi : SE Z cx i gi) : SE Z cx (.Subscript o i pos) (eSubs go gi) := by
  intro m R A env c f σ α s k hR hA I hk Q hQ
  refine subsGo hs (ho hR hA I hk _ fun a σ₁ v₁ α₁ h₁ t₁ hk₁ I₁ E₁ V₁ => hi hR hA I₁ hk₁ _ fun b σ₂ v₂ α₂ h₂ t₂ hk₂ I₂ E₂ V₂ => ?_)
  obtain ⟨n, rfl, q⟩ := asInt_iff hk₂
  rcases ifB_iff q with ⟨hb, q⟩ | ⟨_, q⟩
  case inr => exact absurd q (by simp)
  have hn : n < 1000 := Nat.le_of_ble_eq_true hb
  obtain ⟨t, rfl⟩ := V₂
  rcases seqOf_iff q with ⟨n', l, rfl, e1, q⟩ | ⟨cd, q⟩
  · obtain ⟨p, vs, rfl, hp, L, Vl, gl⟩ := I₂.list (E₂.V V₁) e1
    obtain ⟨x, v, hv, r, q⟩ := nthC_iff Vl q
    refine ⟨"list", _, list_getitem_lookup, L.isList.typeIs, wpAny_getItem_list L.isList (by omega) (by omega) (x := v) (by simpa using hv) ?_⟩
    exact hQ _ σ₂ _ α₂ h₂ t₂ q I₂ (E₁.trans E₂) r.lift
  · obtain ⟨p, vs, rfl, ht, hv⟩ := (E₂.V V₁).asItems cd
    obtain ⟨x, v, hv', r, q⟩ := nthC_iff hv q
    have hlt : n < vs.length := (List.getElem?_eq_some_iff.mp hv').1
    refine ⟨"tuple", _, PyProof.Rows.slot_tuple_getitem.lookup, ht.typeIs, PyProof.Rows.getItem_tuple (j := n) ht (by omega) (by omega) ?_ (x := v) (by simpa using hv') ?_⟩
    · have h0 : ¬ ((n : Int) < 0) := by omega
      simp [seqIndex?, h0, hlt]
    · exact hQ _ σ₂ _ α₂ h₂ t₂ q I₂ (E₁.trans E₂) r

-- isinstance(int, tuple)
theorem SE.isTup {pos p1 p2 : Pos} {x y : Str} {e : PySem.Expr} {g : GE} (hg : globOf cx x = true) (hg' : globOf cx y = true) (hx : x = "isinstance") (hy : y = "tuple") (hs : NS e) (he : SE Z cx e g) : SE Z cx (.Call (.Name x p1) [e, .Name y p2] [] pos) (eIsTup g) := by
  subst hx hy
  intro m R A env c f σ α s k hR hA I hk Q hQ
  have hs' : NS (.Name "tuple" p2) := fun r env => rfl
  refine callBi (id := "isinstance") I hg (by simp [bis]) (by decide) (fun y hy => by simp only [List.mem_cons, List.not_mem_nil, or_false] at hy; rcases hy with rfl | rfl; exact hs; exact hs') (two hs hs' (he hR hA I hk _ fun d σ₁ v α₁ h₁ t₁ hk₁ I₁ E₁ V₁ => evalBi (v := .type "tuple") I₁ hg' (by simp [bis]) (by decide) ?_))
  obtain ⟨n, rfl, q⟩ := asInt_iff hk₁
  obtain ⟨t, rfl⟩ := V₁
  exact PySem.IsiPair.int_tuple (hQ (.bool false) σ₁ (.bool false) α₁ h₁ _ q I₁ E₁ rfl)
end
end Mine

set_option maxRecDepth 100000
namespace Mine
open PySem PySem.W PyProof.Rows PySem.Calls PySem.SeqAt

-- keys
theorem eqD_str {d : DV} {s : Nat} {x : Bool} (h : eqD d (.str s) x false = true) : d = .str s ∧ x = true := by
  cases d with
  | str i =>
    rcases ifB_iff (show ifB (Nat.beq i s) x false = true from h) with ⟨e, q⟩ | ⟨_, q⟩
    · rw [Nat.eq_of_beq_eq_true e]; exact ⟨rfl, q⟩
    · cases q
  | _ => exact absurd h (by simp [eqD, asInt, asCh])
theorem eqD_nil {d : DV} {x : Bool} (h : eqD d .nil x false = true) : d = .nil ∧ x = true := by
  cases d with
  | nil => exact ⟨rfl, h⟩
  | _ => exact absurd h (by simp [eqD, asInt, asCh])
theorem keyOf_iff {d : DV} {k : Nat → Bool} (h : keyOf d k = true) : ∃ n, d = keyD n ∧ k n = true := by
  obtain ⟨a, r1, rfl, h1⟩ := asCons_iff h
  obtain ⟨b, r2, rfl, h2⟩ := asCons_iff h1
  obtain ⟨c, r3, rfl, h3⟩ := asCons_iff h2
  obtain ⟨n, rfl, h4⟩ := asInt_iff h3
  obtain ⟨rfl, h5⟩ := eqD_str (show eqD a (.str 0) (eqD (.cons c r3) (.cons (.str 1) .nil) (k n) false) false = true from h4)
  obtain ⟨rfl, h6⟩ := eqD_str (show eqD c (.str 1) (eqD r3 .nil (k n) false) false = true from h5)
  obtain ⟨rfl, h7⟩ := eqD_nil h6
  exact ⟨n, rfl, h7⟩
theorem V.key {prog : Program} {w : World} {α : List Addr} {h : Heap} {v : Value} {n : Nat} (r : V α h v (keyD n)) : ∃ a, v = .ref a ∧ (dk prog w).is h (keyL n) a := by
  obtain ⟨a, vs, rfl, ⟨o, ho, hc, k, hd⟩, u1, us1, rfl, ⟨t1, rfl⟩, u2, us2, rfl, ⟨t2, rfl⟩, u3, us3, rfl, ⟨t3, rfl⟩, rfl⟩ := V.items r
  refine ⟨a, rfl, o, _, k, ho, hc, hd, ?_⟩
  exact .cons (by simp [mixKind, mixIs, Value.isStrOf]) (.cons (by simp [mixKind, mixIs, Value.isInt]) (.cons (by simp [mixKind, mixIs, Value.isStrOf]) .nil))
theorem V.ofKey {prog : Program} {w : World} {α : List Addr} {h : Heap} {a : Addr} {n : Nat} (r : (dk prog w).is h (keyL n) a) : V α h (.ref a) (keyD n) := by
  obtain ⟨o, items, k, ho, hc, hd, hi⟩ := r
  obtain ⟨l⟩ := items
  cases hi with
  | cons h1 t1 =>
    cases t1 with
    | cons h2 t2 =>
      cases t2 with
      | cons h3 t3 =>
        cases t3
        obtain ⟨q1, rfl⟩ := mixIs_l h1
        obtain ⟨q2, rfl⟩ := mixIs_r h2
        obtain ⟨q3, rfl⟩ := mixIs_l h3
        exact ⟨a, _, _, rfl, ⟨o, ho, hc, k, hd⟩, ⟨q1, rfl⟩, _, _, rfl, ⟨q2, rfl⟩, _, _, rfl, ⟨q3, rfl⟩, rfl⟩
theorem keyL_inj {n m : Nat} (h : keyL n = keyL m) : n = m := by
  unfold keyL at h
  simp only [List.cons.injEq, Sum.inr.injEq, true_and, and_true] at h
  omega

abbrev DX := List (List (Str ⊕ Int) × Addr × Value)
theorem lookE_iff {m : Nat} {k : Nat → Bool} {ke : Bool} : ∀ {es : List (Nat × Nat)} {xs : DX}, DictR xs es → lookE es m k ke = true →
    (∃ p v t, atKey xs (keyL m) = some p ∧ p.2 = .int ((v : Nat) : Int) t ∧ k v = true) ∨ (atKey xs (keyL m) = none ∧ ke = true)
  | [], [], _, h => .inr ⟨rfl, h⟩
  | e :: es, x :: xs, ⟨h1, ⟨t, h2⟩, h3⟩, h => by
    have h' : ifB (Nat.beq e.1 m) (k e.2) (lookE es m k ke) = true := h
    rcases ifB_iff h' with ⟨eq, q⟩ | ⟨ne, q⟩
    · have := Nat.eq_of_beq_eq_true eq
      subst this
      exact .inl ⟨x.2, e.2, t, by simp [atKey, h1], h2, q⟩
    · have hne : ¬ x.1 = keyL m := fun q => Nat.ne_of_beq_eq_false ne (keyL_inj (h1.symm.trans q))
      have ea : atKey (x :: xs) (keyL m) = atKey xs (keyL m) := by simp [atKey, List.find?_cons, hne]
      rw [ea]
      exact lookE_iff h3 q
  | [], _ :: _, h, _ => h.elim
  | _ :: _, [], h, _ => h.elim
def put : List (Nat × Nat) → Nat → Nat → List (Nat × Nat)
  | [], i, v => [(i, v)]
  | p :: r, i, v => bif Nat.beq p.1 i then (p.1, v) :: r else p :: put r i v
theorem putE_eq {i v : Nat} : ∀ {es : List (Nat × Nat)} {k : List (Nat × Nat) → Bool}, putE es i v k = k (put es i v)
  | [], k => rfl
  | p :: r, k => by
    have e : putE (p :: r) i v k = ifB (Nat.beq p.1 i) (k ((p.1, v) :: r)) (putE r i v fun r => k (p :: r)) := rfl
    have e2 : put (p :: r) i v = bif Nat.beq p.1 i then (p.1, v) :: r else p :: put r i v := rfl
    rw [e, putE_eq (es := r), e2]
    cases Nat.beq p.1 i <;> rfl
theorem storedH_cons {K : Type} [DecidableEq K] {x : K × Addr × Value} {xs : List (K × Addr × Value)} {k : K} {a : Addr} {v : Value} (hn : ((x :: xs).map (·.1)).Nodup) :
    storedH (x :: xs) k a v = if x.1 = k then (x.1, x.2.1, v) :: xs else x :: storedH xs k a v := by
  rw [List.map_cons, List.nodup_cons] at hn
  by_cases e : x.1 = k
  · subst e
    rw [if_pos rfl, storedH_old (p := x.2) (by simp [atKey]), List.map_cons, map_putAt_of_not_mem xs _ v hn.1, putAt, if_pos rfl]
  · have ea : atKey (x :: xs) k = atKey xs k := by simp [atKey, List.find?_cons, e]
    rw [if_neg e]
    unfold storedH
    rw [ea]
    split
    · rw [List.map_cons, putAt, if_neg e]
    · rfl
theorem DictR.put {m v : Nat} {a : Addr} {t : Tok} : ∀ {es : List (Nat × Nat)} {xs : DX}, (xs.map (·.1)).Nodup → DictR xs es → DictR (storedH xs (keyL m) a (.int (v : Int) t)) (put es m v)
  | [], [], _, _ => by
    rw [storedH_new rfl]
    exact ⟨rfl, ⟨t, rfl⟩, trivial⟩
  | e :: es, x :: xs, hn, ⟨h1, ⟨u, h2⟩, h3⟩ => by
    rw [storedH_cons hn]
    rw [show Mine.put (e :: es) m v = bif Nat.beq e.1 m then (e.1, v) :: es else e :: Mine.put es m v from rfl]
    cases he : Nat.beq e.1 m with
    | true =>
      have := Nat.eq_of_beq_eq_true he
      subst this
      rw [if_pos h1]
      exact ⟨h1, ⟨t, rfl⟩, h3⟩
    | false =>
      have hne : ¬ x.1 = keyL m := fun q => Nat.ne_of_beq_eq_false he (keyL_inj (h1.symm.trans q))
      rw [if_neg hne]
      refine ⟨h1, ⟨u, h2⟩, DictR.put (List.nodup_cons.mp (by simpa using hn)).2 h3⟩
  | [], _ :: _, _, h => h.elim
  | _ :: _, [], _, h => h.elim
theorem DictR.length : ∀ {es : List (Nat × Nat)} {xs : DX}, DictR xs es → xs.length = es.length
  | [], [], _ => rfl
  | _ :: _, _ :: _, ⟨_, _, h⟩ => by rw [List.length_cons, List.length_cons, DictR.length h]
  | [], _ :: _, h => h.elim
  | _ :: _, [], h => h.elim
theorem ckE_iff {es : List (Nat × Nat)} {k : Bool} (h : ckE es k = true) : es.length ≤ 60 ∧ k = true := by
  have e : ∀ l : List (Nat × Nat), (List.rec (motive := fun _ => Nat) 0 (fun _ _ n => Nat.add n 1) l : Nat) = l.length := by
    intro l
    induction l with
    | nil => rfl
    | cons x r ih => show Nat.add _ 1 = _; rw [ih]; rfl
  unfold ckE at h
  rw [e] at h
  rcases ifB_iff h with ⟨hb, q⟩ | ⟨_, q⟩
  · exact ⟨Nat.le_of_ble_eq_true hb, q⟩
  · cases q
theorem DictR.get : ∀ {es : List (Nat × Nat)} {xs : DX} {i : Nat}, DictR xs es → (es[i]? = none ∧ xs[i]? = none) ∨ ∃ e x, es[i]? = some e ∧ xs[i]? = some x ∧ x.1 = keyL e.1 ∧ ∃ t, x.2.2 = .int (e.2 : Int) t
  | [], [], i, _ => .inl ⟨rfl, rfl⟩
  | e :: es, x :: xs, 0, ⟨h1, h2, _⟩ => .inr ⟨e, x, rfl, rfl, h1, h2⟩
  | e :: es, x :: xs, i + 1, ⟨_, _, h⟩ => by simpa using DictR.get (i := i) h
  | [], _ :: _, _, h => h.elim
  | _ :: _, [], _, h => h.elim

section
variable {prog : Program} {w : World} {A : Around} {E : Value → Shared → Prop} {s : Shared}
/-- a key is set: the turn goes on with the keys -/
theorem dictSetE {d a : Addr} {xs : DX} {k : List (Str ⊕ Int)} {v : Value} {Q : Unit → Shared → Prop} (hu : (dk prog w).room A) (hkey : (dk prog w).is s.heap k a) (hm : DictE prog w s.heap d xs)
    (hQ : ∀ h' tk, DictE prog w h' d (storedH xs k a v) → Heap.SameBut d s.heap h' → Q () { s with heap := h', toks := tk }) (hsz : xs.length ≤ sizeLine) :
    wpAny (model prog w) A (dictSet d (.ref a) v) Q E s := by
  obtain ⟨o, es, ho, hc, hd, he, his, hn⟩ := hm
  have kp : ∀ {h' : Heap}, Heap.SameBut d s.heap h' → ∀ {x b}, (dk prog w).is s.heap x b → (dk prog w).is h' x b := fun hs _ _ q => (dk prog w).keeps q ho hd hs
  unfold dictSet
  try with_reducible refine wpAny_holding ?_
  refine wpAny_bind ((dk prog w).pyHash hu hkey ?_)
  unfold dictSetHashed
  try with_reducible refine wpAny_holding ?_
  refine wpAny_bind (wpAny_dictFind_heap (s := { s with toks := s.toks + (dk prog w).draws k }) hu hkey ho hd he his hn (fun hno => ?_) fun j p hj => ?_)
  · have e0 := atKey_none_of_get hno
    have hl : (storedH xs k a v).length = xs.length + 1 := by rw [storedH_new e0]; simp
    refine wpAny_bind (wpAny_rule (wpAny_updateDictKeys (hz := by have e := size_of_entries he; omega) (s := { s with toks := s.toks + (dk prog w).draws k }) ho hd (hQ _ _ ⟨_, _, Heap.get?_update_self _ ho (Obj.isFreed_of_dict (Obj.data_mapDictKeys hd _)),
      hc.mapDictKeys _, (Obj.data_mapDictKeys hd _).trans (by rw [hl]), ?_, ?_, ?_⟩ (Heap.SameBut.update ..))))
    · rw [storedH_new e0]
      simp [he, entryOfKey]
    · rw [storedH_new e0]
      intro x hx
      rcases List.mem_append.mp hx with hx | hx
      · exact kp (Heap.SameBut.update ..) (his x hx)
      · cases List.mem_singleton.mp hx
        exact kp (Heap.SameBut.update ..) hkey
    · rw [storedH_new e0, List.map_append, List.nodup_append]
      refine ⟨hn, by simp, fun x hx y hy e => not_mem_keys_of_get hno ?_⟩
      simp only [List.map_cons, List.map_nil, List.mem_singleton] at hy
      subst hy
      exact e ▸ hx
  · have e1 := atKey_of_get hn hj
    have hl : (storedH xs k a v).length = xs.length := by rw [storedH_old e1]; simp
    refine wpAny_bind (wpAny_rule (wpAny_bind (wpAny_updateDict (s := { s with toks := s.toks + (dk prog w).draws k }) ho hd (wpAny_point (hQ _ _ ⟨_, _, Heap.get?_update_self _ ho (Obj.isFreed_of_dict (Obj.data_mapDict hd _)),
      hc.mapDict _, (Obj.data_mapDict hd _).trans (by rw [hl]), ?_, ?_, ?_⟩ (Heap.SameBut.update ..))))))
    · rw [storedH_old e1]
      have := modify_map_putAt (entryOfKey (dk prog w)) (fun e : DictEntry => { e with val := v }) k v (fun _ _ => rfl) hn hj
      rw [← he] at this
      obtain ⟨l⟩ := es
      simpa using this
    · rw [storedH_old e1]
      intro x hx
      obtain ⟨y, hy, rfl⟩ := List.mem_map.mp hx
      unfold putAt
      split <;> exact kp (Heap.SameBut.update ..) (his y hy)
    · rw [storedH_old e1, keys_map_putAt]; exact hn
theorem setItemE {d a : Addr} {xs : DX} {k : List (Str ⊕ Int)} {v : Value} {Q : Unit → Shared → Prop} (hu : (dk prog w).room A.in1) (hkey : (dk prog w).is s.heap k a) (hm : DictE prog w s.heap d xs)
    (hQ : ∀ h' tk, DictE prog w h' d (storedH xs k a v) → Heap.SameBut d s.heap h' → Q () { s with heap := h', toks := tk }) (hsz : xs.length ≤ sizeLine) :
    wpAny (model prog w) A (setItem (.ref d) (.ref a) v) Q E s := by
  have hT : s.TypeIs (.ref d) "dict" := hm.toH.typeIs
  unfold setItem
  try with_reducible refine wpAny_holding ?_
  refine wpAny_bind (wpAny_sequenceKey hT (by decide) ?_)
  refine wpAny_bind (wpAny_callSpecial?_slot (name := Str.ofString "__setitem__") hT slot_dict_setitem (wpAny_call_entry slot_dict_setitem hT entry_dict_setitem ?_ (args_dict_setitem _ _ _)))
  show wpAny _ _ (Builtin.Dict.notOrdered "__setitem__" ⟨[.ref d, .ref a, v], []⟩ >>= _) _ _ s
  refine wpAny_bind (wpAny_notOrdered_dict hT ?_)
  show wpAny _ _ (dictSet d (.ref a) v >>= _) _ _ s
  exact wpAny_bind (dictSetE hu hkey hm (fun h' tk x y => wpAny_pure ⟨.none, rfl, wpAny_pure (hQ h' tk x y)⟩) hsz)
end

variable {Z : Base}
section
variable {cx : Cx}
theorem Ext.notOwn {env : Env} {α α' : List Addr} {h h' : Heap} {b : Addr} {o : Obj} (x : Ext cx env α h α' h') (e : h.get? b = some o) (no : ¬ Own cx env α b) : ¬ Own cx env α' b := by
  obtain ⟨t, rfl, ht⟩ := x.pre
  rintro (q | q | q)
  · exact no (.inl q)
  · exact no (.inr (.inl q))
  · rcases List.mem_append.mp q with q | q
    · exact no (.inr (.inr q))
    · rw [ht b q] at e; cases e
theorem Inv.notCell {prog : Program} {w : World} {h₀ : Heap} {env : Env} {c f : Sl} {σ : Sto} {α : List Addr} {h : Heap} {a : Addr} {o : Obj} (I : Inv prog w h₀ cx env c f σ α h) (e : h.get? a = some o) (hd : ∀ v, o.data ≠ .cell v) : ∀ b, CellAt cx env b → b ≠ a := by
  rintro b ⟨x, p, hp, hk, hb⟩ rfl
  obtain ⟨a', v, ha', ⟨o', e', hd'⟩, _⟩ := I.fr.cl x p hp hk
  rw [hb] at ha'; cases ha'
  rw [e] at e'; cases e'
  exact hd _ hd'
theorem high {env : Env} {c f : Sl} {σ : Sto} {α : List Addr} {h : Heap} (I : IN Z cx env c f σ α h) : 3 < h.objs.size := by
  obtain ⟨b, o, hb, e⟩ := Z.big
  exact Nat.lt_of_le_of_lt hb (Heap.lt_size (I.base b o e))
/-- a new object is told of, then taken -/
theorem takeNew {env : Env} {c f : Sl} {σ : Sto} {α : List Addr} {h : Heap} {ob : Obj} {o : DObj} (I : IN Z cx env c f σ α h) (ho : ObOk Z.prog Z.w (h.push ob) h.objs.size o) :
    IN Z cx env c f (σ ++ [o]) (α ++ [h.objs.size]) (h.push ob) ∧ Ext cx env α h (α ++ [h.objs.size]) (h.push ob) ∧ V (α ++ [h.objs.size]) (h.push ob) (.ref h.objs.size) (.loc σ.length) := by
  refine ⟨I.track (push_keep h ob) (fresh_none h) ho, Ext.track (push_keep h ob) (fresh_none h), h.objs.size, ?_, rfl⟩
  rw [← I.sto.len]
  exact List.getElem?_concat_length
theorem SE.dct0 {pos : Pos} : SE Z cx (.Dict [] [] pos) eDct0 := by
  intro m R A env c f σ α s k hR hA I hk Q hQ
  refine wpAny_Dict_empty ?_
  have hk' := hk
  rw [show eDct0 R c f σ k = addO σ (.dict []) fun n σ => k (.loc n) σ from rfl, addO_eq] at hk'
  obtain ⟨I₁, E₁, V₁⟩ := takeNew (o := .dict []) I (ob := { cls := .type "dict", data := .dict #[] }) ⟨high I, Nat.zero_le _, [], DictE.new _ _ _, trivial⟩
  exact hQ _ _ _ _ _ s.toks hk' I₁ E₁ V₁
set_option maxHeartbeats 2000000 in
theorem SE.dct1 {pos : Pos} {a b : PySem.Expr} {ga gb : GE} (ha : SE Z cx a ga) (hb : SE Z cx b gb) : SE Z cx (.Dict [some a] [b] pos) (eDct1 ga gb) := by
  intro m R A env c f σ α s k hR hA I hk Q hQ
  rw [arm_eval_Dict]
  refine wpAny_bind (wpAny_standAt ?_)
  show wpAny _ _ (dictDisplay ([(eval a env, do let x ← eval b env; standAt pos; pure x)].map fun p => (some p.1, p.2))) _ _ _
  rw [dictDisplay_pairs _ (by simp) (by simp)]
  refine wpAny_bind ?_
  unfold subDict
  refine wpAny_bind (wpAny_alloc ?_)
  refine wpAny_bind (wpAny_holding ?_)
  rw [if_pos (by simp)]
  have k₀ := push_keep s.heap { cls := .type "dict", data := .dict #[] }
  have g₀ : (s.heap.push { cls := .type "dict", data := .dict #[] }).get? s.heap.objs.size = some { cls := .type "dict", data := .dict #[] } := Heap.get?_push_size _ rfl
  have n₀ := new_notOwn I (fresh_none s.heap)
  have I₀ := I.grow k₀
  refine wpAny_bind (evalPairs_cons (ha (s := { s with heap := s.heap.push { cls := .type "dict", data := .dict #[] } }) hR hA I₀ hk _ fun x σ₁ v₁ α₁ h₁ t₁ hk₁ I₁ E₁ V₁ => wpAny_bind (hb hR hA I₁ hk₁ _ fun y σ₂ v₂ α₂ h₂ t₂ hk₂ I₂ E₂ V₂ => wpAny_bind (wpAny_standAt (wpAny_pure (evalPairs_nil ?_)))))) 
  obtain ⟨i, rfl, q1⟩ := keyOf_iff hk₂
  obtain ⟨v, rfl, q⟩ := asInt_iff q1
  rw [addO_eq] at q
  obtain ⟨t, rfl⟩ := V₂
  obtain ⟨ka, rfl, hkey⟩ := V.key (prog := Z.prog) (w := Z.w) (E₂.V V₁)
  have g₁ := E₁.keep _ _ g₀ n₀
  have n₁ := E₁.notOwn g₀ n₀
  have g₂ := E₂.keep _ _ g₁ n₁
  have n₂ := E₂.notOwn g₁ n₁
  have E₀₂ : Ext cx env α s.heap α₂ h₂ := (Ext.grow k₀).trans (E₁.trans E₂)
  have hE : DictE Z.prog Z.w h₂ s.heap.objs.size [] := ⟨_, #[], g₂, ⟨rfl, rfl, rfl⟩, rfl, rfl, fun _ hx => by simp at hx, List.nodup_nil⟩
  refine wpAny_holding ?_
  refine wpAny_bind ?_
  show wpAny _ _ (forIn [(Value.ref ka, Value.int (v : Int) t)] _ _) _ _ _
  rw [List.forIn_cons]
  refine wpAny_bind (wpAny_bind (dictSetE (s := { s with heap := h₂, toks := t₂ }) (show A.units < cLine by have := hA.un; omega) hkey hE (fun h' tk hE' hs' => ?_) (Nat.zero_le _)))
  refine wpAny_pure ?_
  show wpAny _ _ (forIn ([] : List (Value × Value)) _ _) _ _ _
  rw [List.forIn_nil]
  refine wpAny_pure (wpAny_pure (wpAny_pure (wpAny_pure ?_)))
  have hk' : ∀ b o, b ≠ s.heap.objs.size → h₂.get? b = some o → h'.get? b = some o := fun b o hb e => hs'.extBut b o hb e
  obtain ⟨od, ed, god, _⟩ := id hE'
  have I₃ : IN Z cx env c f σ₂ α₂ h' := I₂.turn hk' (base_none I (fresh_none s.heap)) n₂ (I₂.notCell g₂ (fun v e => by cases e)) (fun o e => by
    rw [g₂] at e; cases e
    rintro (⟨_, _, q, _⟩ | ⟨_, q, _⟩) <;> cases q)
  have E₃ : Ext cx env α s.heap α₂ h' := E₀₂.turn hk' (fresh_none s.heap)
  have ob : ObOk Z.prog Z.w h' s.heap.objs.size (.dict [(i, v)]) := ⟨high I, by simp, _, hE', DictR.put (es := []) (by simp) trivial⟩
  have I₄ := I₃.adopt n₂ (base_none I (fresh_none s.heap)) ob
  refine hQ _ _ _ (α₂ ++ [s.heap.objs.size]) h' tk q I₄ (E₃.adopt (fresh_none s.heap)) ⟨s.heap.objs.size, ?_, rfl⟩
  rw [← I₂.sto.len]
  exact List.getElem?_concat_length
end
end Mine

set_option maxRecDepth 100000
namespace Mine
open PySem PySem.W PyProof.Rows PySem.Calls PySem.SeqAt

variable {Z : Base}
section
variable {cx : Cx}
/-- a method of a name's object is called -/
theorem callM0 {A : Around} {env : Env} {s : Shared} {o : PySem.Expr} {name : Str} {apos pos : Pos} {T id : String} {Q : Value → Shared → Prop} (hbase : attributeBase o name env (eval o env) = eval o env)
    (hline : (apos.endLine == pos.line) = true) (pa : PlainAttrs T) (slot : Slot T name id) (hty : typeOf (.builtin id) = pure (.type "method_descriptor"))
    (h : wpAny (model Z.prog Z.w) A (eval o env) (fun ov s₁ => s₁.TypeIs ov T ∧ (∀ a, ov = .ref a → ∃ ob, s₁.heap.get? a = some ob ∧ ob.dict = none) ∧ wpAny (model Z.prog Z.w) A (call (.builtin id) [ov]) Q NoE s₁) NoE s) :
    wpAny (model Z.prog Z.w) A (eval (.Call (.Attribute o name apos) [] [] pos) env) Q NoE s :=
  PySem.wpAny_Call_method hbase rfl hline pa slot hty (wpAny_mono h (fun ov s₁ h₁ => ⟨h₁.1, h₁.2.1, callWith_method0 h₁.2.2⟩) fun _ _ e => e)
theorem callM {A : Around} {env : Env} {s : Shared} {o e : PySem.Expr} {name : Str} {apos pos : Pos} {r : List PySem.Expr} {T id : String} {Q : Value → Shared → Prop} (hbase : attributeBase o name env (eval o env) = eval o env)
    (hline : (apos.endLine == pos.line) = true) (hs : ∀ y ∈ e :: r, NS y) (hn : r.length < 20) (pa : PlainAttrs T) (slot : Slot T name id) (hty : typeOf (.builtin id) = pure (.type "method_descriptor"))
    (h : wpAny (model Z.prog Z.w) A (eval o env) (fun ov s₁ => s₁.TypeIs ov T ∧ (∀ a, ov = .ref a → ∃ ob, s₁.heap.get? a = some ob ∧ ob.dict = none) ∧
      wpAny (model Z.prog Z.w) A (spliced (backTo pos (starEach (e :: r) env))) (fun vs s₂ => wpAny (model Z.prog Z.w) A (call (.builtin id) (ov :: vs)) Q NoE s₂) NoE s₁) NoE s) :
    wpAny (model Z.prog Z.w) A (eval (.Call (.Attribute o name apos) (e :: r) [] pos) env) Q NoE s := by
  have hb : (backTo pos (starEach (e :: r) env)).any (·.1) = false := backTo_plain hs
  have hall : (backTo pos (starEach (e :: r) env)).all (fun x => !x.1) = true := by
    rw [List.any_eq_false] at hb
    rw [List.all_eq_true]
    intro x hx
    have := hb x hx
    simpa using this
  refine PySem.wpAny_Call_method hbase ?_ hline pa slot hty (wpAny_mono h (fun ov s₁ h₁ => ⟨h₁.1, h₁.2.1, ?_⟩) fun _ _ e => e)
  · rw [hall]
    simp [backToKw, keywordEach]
    omega
  · exact callWith_method1 h₁.2.2 (hs e List.mem_cons_self r env) (backTo_plain fun y hy => hs y (List.mem_cons_of_mem _ hy))

theorem listDict {s : Shared} {p : Addr} {xs : Array Value} (L : IsL s.heap p xs) : ∀ a, Value.ref p = .ref a → ∃ ob, s.heap.get? a = some ob ∧ ob.dict = none := by
  rintro a e
  cases e
  obtain ⟨n, e⟩ := L
  exact ⟨_, e, rfl⟩
theorem line60 {n : Nat} (h : n ≤ 60) : n ≤ sizeLine := by rw [sizeLine_eq]; omega
theorem keepBut {h : Heap} {a : Addr} {f : Obj → Obj} : ∀ b o, b ≠ a → h.get? b = some o → (h.update a f).get? b = some o := fun b o hb e => Heap.get?_update_of_ne f (fun q => hb q.symm) e
theorem SE.append {pos apos : Pos} {o a : PySem.Expr} {name : Str} {go ga : GE} (hb : ∀ nm env, attributeBase o nm env (eval o env) = eval o env) (hline : (apos.endLine == pos.line) = true) (hn : name = "append") (hs : NS a) (ho : SE Z cx o go) (ha : SE Z cx a ga) :
    SE Z cx (.Call (.Attribute o name apos) [a] [] pos) (mAppend go ga) := by
  subst hn
  intro m R A env c f σ α s k hR hA I hk Q hQ
  have hone : ∀ y ∈ [a], NS y := fun y hy => by simp only [List.mem_singleton] at hy; subst hy; exact hs
  refine callM (hb _ _) hline hone (by simp) PySem.F.plainAttrs_list PySem.F.slot_list_append PySem.F.type_list_append (ho hR hA I hk _ fun d σ₁ v₁ α₁ h₁ t₁ hk₁ I₁ E₁ V₁ => ?_)
  obtain ⟨n, rfl, q1⟩ := asLoc_iff hk₁
  obtain ⟨ob, e1, q2⟩ := nthO_iff q1
  obtain ⟨l₁, rfl, q3⟩ := obL_iff q2
  obtain ⟨p, vs₁, rfl, hp, L₁, _, _⟩ := I₁.list V₁ e1
  refine ⟨L₁.isList.typeIs, listDict L₁, one hs (ha hR hA I₁ q3 _ fun d' σ₂ v₂ α₂ h₂ t₂ hk₂ I₂ E₂ V₂ => ?_)⟩
  obtain ⟨ob, e, q4⟩ := nthO_iff hk₂
  obtain ⟨l, rfl, q5⟩ := obL_iff q4
  obtain ⟨g, q6⟩ := ck_iff (appC_iff q5)
  rw [setO_eq] at q6
  obtain ⟨p', vs, ep, hp', ⟨nn, hL⟩, Vl, gl⟩ := I₂.list (E₂.V V₁) e
  cases ep
  have up := PySem.IsL.update (h := h₂) hL fun x => x.push v₂
  have V₂' : VI α₂ h₂ (vs ++ [v₂]) (app l (.cons d' .nil)) := VI.app (show VI α₂ h₂ [v₂] (.cons d' .nil) from ⟨v₂, [], rfl, V₂, rfl⟩) Vl.lift
  obtain ⟨I₃, E₃⟩ := I₂.setOb (h' := h₂.update p (Obj.mapSeq fun x => x.push v₂)) (o := .list (app l (.cons d' .nil))) hp' (fun b o hb e => keepBut b o hb e) (fun im => by
    refine ⟨vs ++ [v₂], ?_, (V₂'.ground g).imm im, g⟩
    have e2 : (vs ++ [v₂]).toArray = vs.toArray.push v₂ := by simp
    rw [e2]
    exact ⟨_, up⟩)
  refine call_meets PySem.F.slot_list_append ⟨_, hL, rfl⟩ PySem.F.entry_list_append (PySem.F.args_list_append_2 _ _) (PySem.AutoListH.list_append_list_val_0 p vs.toArray nn v₂ (by rw [List.size_toArray]; exact line60 (gl.size Vl))) ⟨hL, ?_⟩
  exact hQ .non _ .none α₂ _ t₂ q6 I₃ ((E₁.trans E₂).trans E₃) rfl
theorem insertL {prog : Program} {w : World} {A : Around} {E : Value → Shared → Prop} {s : Shared} {p : Addr} {xs : Array Value} {nn : Nat} {x : Int} {t : Tok} {v : Value} {Q : Value → Shared → Prop} (hL : s.heap.get? p = some { cls := .type "list", data := .seq xs nn }) (hf : Builtin.List.listFitsIndex x = true) (hz : xs.size ≤ sizeLine)
    (h : Q .none { s with heap := s.heap.update p (Obj.mapSeq fun xs => have k := if x < 0 then (x + (xs.size : Int)).toNat else Min.min x.toNat xs.size; (xs.extract 0 k).push v ++ xs.extract k) }) :
    wpAny (model prog w) A (call (.builtin "list.insert") [.ref p, .int x t, v]) Q E s :=
  call_meets PySem.F.slot_list_insert ⟨_, hL, rfl⟩ PySem.F.entry_list_insert (PySem.F.args_list_insert_3 _ _ _) (PySem.AutoSeq1.list_insert_list_int_val_1 p xs nn x t v (by rw [hf]; decide) hz) ⟨hL, h⟩
theorem insC_iff {α : List Addr} {h : Heap} {x : DV} {v : Value} (hx : V α h v x) : ∀ {d : DV} {n : Nat} {vs : List Value} {k : DV → Bool}, VI α h vs d → insC x d n k = true → n ≤ vs.length ∧ ∃ d', k d' = true ∧ VI α h (vs.take n ++ v :: vs.drop n) d' := by
  intro d
  induction d with
  | nil =>
    intro n vs k e q
    cases e
    cases n with
    | zero => exact ⟨Nat.le_refl _, _, q, v, [], rfl, hx, rfl⟩
    | succ n => exact absurd q (by simp [insC])
  | cons a b _ ih =>
    rintro n vs k ⟨u, us, rfl, h1, h2⟩ q
    cases n with
    | zero => exact ⟨Nat.zero_le _, _, q, v, u :: us, rfl, hx, u, us, rfl, h1, h2⟩
    | succ n =>
      obtain ⟨hn, d', q', r⟩ := ih (n := n) (k := fun r => k (.cons a r)) h2 q
      exact ⟨Nat.succ_le_succ hn, _, q', u, _, rfl, h1, r⟩
  | _ => intro n vs k e; exact e.elim
theorem SE.insert {pos apos : Pos} {o a b : PySem.Expr} {name : Str} {go ga gb : GE} (hb : ∀ nm env, attributeBase o nm env (eval o env) = eval o env) (hline : (apos.endLine == pos.line) = true) (hn : name = "insert") (hs : NS a) (hs' : NS b) (ho : SE Z cx o go) (ha : SE Z cx a ga) (hb' : SE Z cx b gb) :
    SE Z cx (.Call (.Attribute o name apos) [a, b] [] pos) (mInsert go ga gb) := by
  subst hn
  intro m R A env c f σ α s k hR hA I hk Q hQ
  have hone : ∀ y ∈ [a, b], NS y := fun y hy => by simp only [List.mem_cons, List.not_mem_nil, or_false] at hy; rcases hy with rfl | rfl; exact hs; exact hs'
  refine callM (hb _ _) hline hone (by simp) PySem.F.plainAttrs_list PySem.F.slot_list_insert PySem.F.type_list_insert (ho hR hA I hk _ fun d σ₁ v₁ α₁ h₁ t₁ hk₁ I₁ E₁ V₁ => ?_)
  obtain ⟨n, rfl, q1⟩ := asLoc_iff hk₁
  obtain ⟨ob, e1, q2⟩ := nthO_iff q1
  obtain ⟨l₁, rfl, q3⟩ := obL_iff q2
  obtain ⟨p, vs₁, rfl, hp, L₁, _, _⟩ := I₁.list V₁ e1
  refine ⟨L₁.isList.typeIs, listDict L₁, two hs hs' (ha hR hA I₁ q3 _ fun d₂ σ₂ v₂ α₂ h₂ t₂ hk₂ I₂ E₂ V₂ => hb' hR hA I₂ hk₂ _ fun d₃ σ₃ v₃ α₃ h₃ t₃ hk₃ I₃ E₃ V₃ => ?_)⟩
  obtain ⟨i, rfl, q4⟩ := asInt_iff hk₃
  obtain ⟨ob, e, q5⟩ := nthO_iff q4
  obtain ⟨l, rfl, q6⟩ := obL_iff q5
  obtain ⟨p', vs, ep, hp', ⟨nn, hL⟩, Vl, gl⟩ := I₃.list (E₃.V (E₂.V V₁)) e
  cases ep
  obtain ⟨t, rfl⟩ := V₂
  obtain ⟨hi, d', q7, V'⟩ := insC_iff V₃ Vl.lift q6
  obtain ⟨g, q8⟩ := ck_iff q7
  rw [setO_eq] at q8
  have hz := gl.size Vl
  have hf : Builtin.List.listFitsIndex (i : Int) = true := fitsIndex_of (by omega) (by omega)
  have up := PySem.IsL.update (h := h₃) hL fun xs => have k := if (i : Int) < 0 then ((i : Int) + (xs.size : Int)).toNat else Min.min (i : Int).toNat xs.size; (xs.extract 0 k).push v₃ ++ xs.extract k
  obtain ⟨I₄, E₄⟩ := I₃.setOb (h' := h₃.update p (Obj.mapSeq fun xs => have k := if (i : Int) < 0 then ((i : Int) + (xs.size : Int)).toNat else Min.min (i : Int).toNat xs.size; (xs.extract 0 k).push v₃ ++ xs.extract k)) (o := .list d') hp' (fun b o hb e => keepBut b o hb e) (fun im => by
    refine ⟨vs.take i ++ v₃ :: vs.drop i, ?_, (V'.ground g).imm im, g⟩
    have e2 : (vs.take i ++ v₃ :: vs.drop i).toArray = (fun xs : Array Value => have k := if (i : Int) < 0 then ((i : Int) + (xs.size : Int)).toNat else Min.min (i : Int).toNat xs.size; (xs.extract 0 k).push v₃ ++ xs.extract k) vs.toArray := by
      have h0 : ¬ ((i : Int) < 0) := by omega
      have hm : Min.min i vs.length = i := Nat.min_eq_left hi
      show _ = (fun k => (vs.toArray.extract 0 k).push v₃ ++ vs.toArray.extract k) (if (i : Int) < 0 then ((i : Int) + (vs.toArray.size : Int)).toNat else Min.min (i : Int).toNat vs.toArray.size)
      rw [if_neg h0, Int.toNat_natCast, List.size_toArray, hm]
      exact (kl_ins_eq vs i v₃).symm
    rw [e2]
    exact ⟨_, up⟩)
  refine insertL (s := { s with heap := h₃, toks := t₃ }) hL hf (by rw [List.size_toArray]; exact line60 hz) ?_
  exact hQ .non _ .none α₃ _ t₃ q8 I₄ (((E₁.trans E₂).trans E₃).trans E₄) rfl

/-- the dict that a place of the store stands for -/
theorem Inv.dict {prog : Program} {w : World} {h₀ : Heap} {env : Env} {c f : Sl} {σ : Sto} {α : List Addr} {h : Heap} {v : Value} {n : Nat} {es : List (Nat × Nat)} (I : Inv prog w h₀ cx env c f σ α h) (r : V α h v (.loc n)) (e : σ[n]? = some (.dict es)) :
    ∃ a xs, v = .ref a ∧ α[n]? = some a ∧ 3 < a ∧ es.length ≤ 60 ∧ DictE prog w h a xs ∧ DictR xs es := by
  obtain ⟨a, ha, rfl⟩ := r
  obtain ⟨h1, h2, xs, h3, h4⟩ := I.sto.obj n a _ ha e
  exact ⟨a, xs, rfl, ha, h1, h2, h3, h4⟩
theorem notMods {a : Addr} (h : 3 < a) : (a == sysModules) = false := by
  have : a ≠ sysModules := fun q => by rw [q] at h; exact absurd (show (3 : Nat) < 1 from h) (by decide)
  simp [this]
theorem dictDict {h : Heap} {p : Addr} {xs : DX} {prog : Program} {w : World} (L : DictE prog w h p xs) : ∀ a, Value.ref p = .ref a → ∃ ob, h.get? a = some ob ∧ ob.dict = none := by
  rintro a e
  cases e
  obtain ⟨o, es, ho, hc, _⟩ := L
  exact ⟨o, ho, hc.2.1⟩
theorem roomIn {A : Around} {m : Nat} (hA : Room m A) {prog : Program} {w : World} : (dk prog w).room A.in1 := tupleKind_room_in1 hA.in1
theorem SE.get2 {pos apos : Pos} {o a b : PySem.Expr} {name : Str} {go ga gb : GE} (hb : ∀ nm env, attributeBase o nm env (eval o env) = eval o env) (hline : (apos.endLine == pos.line) = true) (hn : name = "get") (hs : NS a) (hs' : NS b) (ho : SE Z cx o go) (ha : SE Z cx a ga) (hb' : SE Z cx b gb) :
    SE Z cx (.Call (.Attribute o name apos) [a, b] [] pos) (mGet2 go ga gb) := by
  subst hn
  intro m R A env c f σ α s k hR hA I hk Q hQ
  have hone : ∀ y ∈ [a, b], NS y := fun y hy => by simp only [List.mem_cons, List.not_mem_nil, or_false] at hy; rcases hy with rfl | rfl; exact hs; exact hs'
  refine callM (hb _ _) hline hone (by simp) PySem.F.plainAttrs_dict PySem.F.slot_dict_get PySem.F.type_dict_get (ho hR hA I hk _ fun d σ₁ v₁ α₁ h₁ t₁ hk₁ I₁ E₁ V₁ => ?_)
  obtain ⟨n, rfl, q1⟩ := asLoc_iff hk₁
  obtain ⟨ob, e1, q2⟩ := nthO_iff q1
  obtain ⟨l₁, rfl, q3⟩ := obD_iff q2
  obtain ⟨p, xs₁, rfl, hp, hp3, _, L₁, _⟩ := I₁.dict V₁ e1
  refine ⟨L₁.toH.typeIs, dictDict L₁, two hs hs' (ha hR hA I₁ q3 _ fun d₂ σ₂ v₂ α₂ h₂ t₂ hk₂ I₂ E₂ V₂ => hb' hR hA I₂ hk₂ _ fun d₃ σ₃ v₃ α₃ h₃ t₃ hk₃ I₃ E₃ V₃ => ?_)⟩
  obtain ⟨i, rfl, q4⟩ := keyOf_iff hk₃
  obtain ⟨ob, e, q5⟩ := nthO_iff q4
  obtain ⟨es, rfl, q6⟩ := obD_iff q5
  obtain ⟨z, rfl, q7⟩ := asInt_iff q6
  obtain ⟨p', xs, ep, hp', _, _, L, Dr⟩ := I₃.dict (E₃.V (E₂.V V₁)) e
  cases ep
  obtain ⟨ka, rfl, hkey⟩ := V.key (prog := Z.prog) (w := Z.w) (E₃.V V₂)
  refine call_meetsIn PySem.F.slot_dict_get L.toH.typeIs PySem.F.entry_dict_get (PySem.F.args_dict_get_3 _ _ _) (meetsH_dict_get_default (dk Z.prog Z.w) p ka (notMods hp3) v₃) ⟨roomIn hA, _, xs, hkey, L.toH, ?_⟩
  have E' := (E₁.trans E₂).trans E₃
  rcases lookE_iff Dr q7 with ⟨pr, v, t, ea, ev, q8⟩ | ⟨ea, q8⟩
  · rw [ea]
    exact hQ _ σ₃ _ α₃ h₃ _ q8 I₃ E' ⟨t, ev⟩
  · rw [ea]
    exact hQ _ σ₃ _ α₃ h₃ _ q8 I₃ E' V₃
theorem viewGo {A : Around} {s : Shared} {d : Addr} {xs : DX} {Q : Value → Shared → Prop} (hd : 3 < d) (hm : DictE Z.prog Z.w s.heap d xs) (ob : Obj)
    (h : Q (.ref s.heap.objs.size) { s with heap := s.heap.push ob }) :
    (ob = { cls := .type "dict_items", data := .fields #[.ref d] } → wpAny (model Z.prog Z.w) A (call (.builtin "dict.items") [.ref d]) Q NoE s) ∧ (ob = { cls := .type "dict_values", data := .fields #[.ref d] } → wpAny (model Z.prog Z.w) A (call (.builtin "dict.values") [.ref d]) Q NoE s) := by
  have hT : s.TypeIs (.ref d) "dict" := hm.toH.typeIs
  have go : ∀ (t : Addr → Sem Fin) (Q' : Fin → Shared → Prop), wpAny (model Z.prog Z.w) A.in1 (t d) Q' NoE s → wpAny (model Z.prog Z.w) A.in1 (Builtin.Dict.showsAll d >>= fun _ => t d) Q' NoE s := by
    intro t Q' h
    unfold Builtin.Dict.showsAll
    rw [if_neg (by rw [notMods hd]; exact Bool.false_ne_true)]
    exact wpAny_bind (wpAny_pure h)
  constructor
  · rintro rfl
    refine wpAny_call (codeAny_call_builtin PySem.F.slot_dict_items.plain PySem.F.entry_dict_items (PySem.F.slot_dict_items.check _ _ _ _ _ _ _ _ hT (PySem.F.args_dict_items_1 _) ?_))
    unfold Builtin.«dict.items»
    refine wpAny_bind ?_
    unfold Builtin.Dict.noArgs
    refine wpAny_bind (wpAny_notOrdered_dict hT ?_)
    show wpAny _ _ (pure d) _ _ s
    refine wpAny_pure ?_
    show wpAny _ _ (Builtin.Dict.showsAll d >>= _) _ _ s
    unfold Builtin.Dict.showsAll
    rw [if_neg (by rw [notMods hd]; exact Bool.false_ne_true)]
    refine wpAny_bind (wpAny_pure ?_)
    exact wpAny_bind (wpAny_newObj_type (wpAny_pure h))
  · rintro rfl
    refine wpAny_call (codeAny_call_builtin PySem.F.slot_dict_values.plain PySem.F.entry_dict_values (PySem.F.slot_dict_values.check _ _ _ _ _ _ _ _ hT (PySem.F.args_dict_values_1 _) ?_))
    refine wpAny_bind ?_
    unfold Builtin.Dict.noArgs
    refine wpAny_bind (wpAny_notOrdered_dict hT ?_)
    show wpAny _ _ (pure d) _ _ s
    refine wpAny_pure ?_
    show wpAny _ _ (Builtin.Dict.showsAll d >>= _) _ _ s
    unfold Builtin.Dict.showsAll
    rw [if_neg (by rw [notMods hd]; exact Bool.false_ne_true)]
    refine wpAny_bind (wpAny_pure ?_)
    exact wpAny_bind (wpAny_newObj_type (wpAny_pure h))
theorem SE.items {pos apos : Pos} {o : PySem.Expr} {name : Str} {go : GE} (hb : ∀ nm env, attributeBase o nm env (eval o env) = eval o env) (hline : (apos.endLine == pos.line) = true) (hn : name = "items") (ho : SE Z cx o go) :
    SE Z cx (.Call (.Attribute o name apos) [] [] pos) (mItems go) := by
  subst hn
  intro m R A env c f σ α s k hR hA I hk Q hQ
  refine callM0 (hb _ _) hline PySem.F.plainAttrs_dict PySem.F.slot_dict_items PySem.F.type_dict_items (ho hR hA I hk _ fun d σ₁ v₁ α₁ h₁ t₁ hk₁ I₁ E₁ V₁ => ?_)
  obtain ⟨n, rfl, q1⟩ := asLoc_iff hk₁
  obtain ⟨ob, e1, q2⟩ := nthO_iff q1
  obtain ⟨l₁, rfl, q3⟩ := obD_iff q2
  obtain ⟨p, xs₁, rfl, hp, hp3, _, L₁, _⟩ := I₁.dict V₁ e1
  refine ⟨L₁.toH.typeIs, dictDict L₁, (viewGo hp3 L₁ _ ?_).1 rfl⟩
  have k₁ := push_keep h₁ { cls := .type "dict_items", data := .fields #[.ref p] }
  exact hQ _ σ₁ _ α₁ _ t₁ q3 (I₁.grow k₁) (E₁.trans (Ext.grow k₁)) ⟨p, _, hp, rfl, _, Heap.get?_push_size _ rfl, rfl, rfl⟩
theorem SE.values {pos apos : Pos} {o : PySem.Expr} {name : Str} {go : GE} (hb : ∀ nm env, attributeBase o nm env (eval o env) = eval o env) (hline : (apos.endLine == pos.line) = true) (hn : name = "values") (ho : SE Z cx o go) :
    SE Z cx (.Call (.Attribute o name apos) [] [] pos) (mValues go) := by
  subst hn
  intro m R A env c f σ α s k hR hA I hk Q hQ
  refine callM0 (hb _ _) hline PySem.F.plainAttrs_dict PySem.F.slot_dict_values PySem.F.type_dict_values (ho hR hA I hk _ fun d σ₁ v₁ α₁ h₁ t₁ hk₁ I₁ E₁ V₁ => ?_)
  obtain ⟨n, rfl, q1⟩ := asLoc_iff hk₁
  obtain ⟨ob, e1, q2⟩ := nthO_iff q1
  obtain ⟨l₁, rfl, q3⟩ := obD_iff q2
  obtain ⟨p, xs₁, rfl, hp, hp3, _, L₁, _⟩ := I₁.dict V₁ e1
  refine ⟨L₁.toH.typeIs, dictDict L₁, (viewGo hp3 L₁ _ ?_).2 rfl⟩
  have k₁ := push_keep h₁ { cls := .type "dict_values", data := .fields #[.ref p] }
  exact hQ _ σ₁ _ α₁ _ t₁ q3 (I₁.grow k₁) (E₁.trans (Ext.grow k₁)) ⟨p, _, hp, rfl, _, Heap.get?_push_size _ rfl, rfl, rfl⟩
theorem SB.isIn {pos : Pos} {l r : PySem.Expr} {gl gr : GE} (hm : ∀ op, behindInMarks op r = false) (hl : SE Z cx l gl) (hr : SE Z cx r gr) : SB Z cx (.Compare l [.In] [r] pos) (bIn gl gr) := by
  intro m R A env c f σ α s kt kf hR hA I hk Q ht hf
  refine wpAny_isTrue_Compare1 (hl hR hA I hk _ fun a σ₁ v₁ α₁ h₁ t₁ hk₁ I₁ E₁ V₁ => hr hR hA I₁ hk₁ _ fun b σ₂ v₂ α₂ h₂ t₂ hk₂ I₂ E₂ V₂ => ?_) (hm _)
  have V₁' := E₂.V V₁
  have tup : ∀ l : DV, Chain l → Gr a 60 → Gr l 60 → V α₂ h₂ v₂ l → inD a l (kt σ₂) (kf σ₂) = true → wpAny (model Z.prog Z.w) A (compareOp .In v₁ v₂) (fun v s₁ => wpAny (model Z.prog Z.w) A (truthy v) Q NoE s₁) NoE { s with heap := h₂, toks := t₂ } := by
    intro l cl ga gl V₂ q
    obtain ⟨as, r1⟩ := (reads_py a 60 ga).1 _ V₁'
    obtain ⟨bs, r2⟩ := (reads_py l 60 gl).1 _ V₂
    rw [py_chain cl] at r2
    refine in_tuple_reads r2 r1 (shape_py l 60 gl).2.1 (shape_py a 60 ga).1.1 (room_in hA ga) (wpAny_truthy_bool ?_)
    rcases inD_iff ga V₁.wf l 60 gl (by omega) V₂.wf cl q with ⟨e, q⟩ | ⟨e, q⟩ <;> rw [e]
    · exact ht _ _ _ _ q I₂ (E₁.trans E₂)
    · exact hf _ _ _ _ q I₂ (E₁.trans E₂)
  cases b with
  | loc n =>
    obtain ⟨ob, e, q⟩ := nthO_iff hk₂
    cases ob with
    | list l =>
      obtain ⟨ga, q⟩ := ck_iff (show ck a (inD a l (kt σ₂) (kf σ₂)) = true from q)
      obtain ⟨p, vs, rfl, hp, L, Vl, gl⟩ := I₂.list V₂ e
      obtain ⟨as, r1⟩ := (reads_py a 60 ga).1 _ V₁'
      obtain ⟨bs, r2⟩ := readsList L Vl gl
      refine in_list_reads r2 r1 (shape_py l 60 gl).2.1 (shape_py a 60 ga).1.1 (room_in hA ga) (wpAny_truthy_bool ?_)
      rcases inD_iff ga V₁.wf l 60 gl (by omega) Vl.wf Vl.chain q with ⟨e, q⟩ | ⟨e, q⟩ <;> rw [e]
      · exact ht _ _ _ _ q I₂ (E₁.trans E₂)
      · exact hf _ _ _ _ q I₂ (E₁.trans E₂)
    | dict es =>
      obtain ⟨i, rfl, q1⟩ := keyOf_iff (show keyOf a (fun i => lookE es i (fun _ => kt σ₂) (kf σ₂)) = true from q)
      obtain ⟨p, xs, rfl, hp, hp3, _, L, Dr⟩ := I₂.dict V₂ e
      obtain ⟨ka, rfl, hkey⟩ := V.key (prog := Z.prog) (w := Z.w) V₁'
      refine wpAny_in_heap (knd := dk Z.prog Z.w) (roomIn hA) hkey (notMods hp3) L.toH (wpAny_truthy_bool ?_)
      rcases lookE_iff Dr q1 with ⟨pr, v, t, ea, ev, q8⟩ | ⟨ea, q8⟩
      · rw [ea]; exact ht _ _ _ _ q8 I₂ (E₁.trans E₂)
      · rw [ea]; exact hf _ _ _ _ q8 I₂ (E₁.trans E₂)
  | nil =>
    obtain ⟨ga, q⟩ := ck_iff (show ck a (kf σ₂) = true from hk₂)
    exact tup .nil trivial ga trivial V₂ q
  | cons x y =>
    obtain ⟨ga, q⟩ := ck_iff (show ck a (ck (.cons x y) (inD a (.cons x y) (kt σ₂) (kf σ₂))) = true from hk₂)
    obtain ⟨gl, q⟩ := ck_iff q
    exact tup (.cons x y) trivial ga gl V₂ q
  | _ => exact absurd hk₂ (by simp [bIn])
end
end Mine

set_option maxRecDepth 100000
namespace Mine
open PySem PySem.W PyProof.Rows PySem.Calls PySem.SeqAt

-- the sort
def AllF (P : DV → Prop) : DV → Prop
  | .nil => True
  | .cons h t => (∃ a r, h = .cons a r ∧ P a) ∧ AllF P t
  | _ => False
theorem firstsI_iff {k : Bool} : ∀ {l : DV}, firstsI l k = true → AllF (fun a => ∃ n, a = .int n) l ∧ k = true := by
  intro l
  induction l with
  | nil => intro h; exact ⟨trivial, h⟩
  | cons x y _ ih =>
    intro h
    obtain ⟨a, r, rfl, h1⟩ := asCons_iff (show asCons x (fun a _ => asInt a fun _ => firstsI y k) = true from h)
    obtain ⟨n, rfl, h2⟩ := asInt_iff h1
    exact ⟨⟨⟨_, _, rfl, n, rfl⟩, (ih h2).1⟩, (ih h2).2⟩
  | _ => intro h; simp [firstsI] at h
theorem firstsT_iff {k : Bool} : ∀ {l : DV}, firstsT l k = true → AllF Chain l ∧ k = true := by
  intro l
  induction l with
  | nil => intro h; exact ⟨trivial, h⟩
  | cons x y _ ih =>
    intro h
    obtain ⟨a, r, rfl, h1⟩ := asCons_iff (show asCons x (fun a _ => asCons a fun _ _ => firstsT y k) = true from h)
    obtain ⟨n, n', rfl, h2⟩ := asCons_iff h1
    exact ⟨⟨⟨_, _, rfl, trivial⟩, (ih h2).1⟩, (ih h2).2⟩
  | _ => intro h; simp [firstsT] at h
theorem nthC_all {P : DV → Prop} {α : List Addr} {h : Heap} : ∀ {d : DV} {n m : Nat} {vs : List Value} {k : DV → Bool}, AllF P d → Gr d m → VI α h vs d → nthC d n k false = true → ∃ a r v, vs[n]? = some v ∧ V α h v (.cons a r) ∧ P a ∧ Gr (.cons a r) m ∧ k (.cons a r) = true := by
  intro d
  induction d with
  | nil => intro n m vs k _ _ _ q; exact absurd q (by simp [nthC])
  | cons x y _ ih =>
    rintro n m vs k ⟨⟨a, r, rfl, hp⟩, hr⟩ ⟨m, rfl, g1, g2⟩ ⟨u, us, rfl, h1, h2⟩ q
    cases n with
    | zero => exact ⟨a, r, u, rfl, h1, hp, g1.le (Nat.le_succ _), q⟩
    | succ n =>
      obtain ⟨a', r', v, e, rv, p, g, q'⟩ := ih (n := n) hr g2 h2 q
      exact ⟨a', r', v, by simpa using e, rv, p, g.le (Nat.le_succ _), q'⟩
  | _ => intro n m vs k e; exact e.elim
theorem pick_iff {α : List Addr} {h : Heap} {l : DV} {vs : List Value} (hv : VI α h vs l) : ∀ {ps : List Nat} {k : DV → Bool}, pickC l ps k = true → ∃ d, k d = true ∧ VI α h (ps.map fun i => vs.getD i .none) d
  | [], k, q => ⟨.nil, q, rfl⟩
  | i :: ps, k, q => by
    obtain ⟨x, v, e, r, q1⟩ := nthC_iff hv (show nthC l i (fun d => pickC l ps fun r => k (.cons d r)) false = true from q)
    obtain ⟨d, q2, r2⟩ := pick_iff hv q1
    refine ⟨_, q2, v, _, ?_, r, r2⟩
    rw [List.map_cons, List.getD_eq_getElem?_getD, e]
    rfl
section
variable {prog : Program} {w : World} {A : Around} {E : Value → Shared → Prop} {s : Shared}
theorem katLex {b fin x y : Bool} {Q : Bool → Shared → Prop} (hu : A.units + 140 < cLine) (hx : x = true → Q true s) (hy : y = true → Q false s) : ∀ (a c : DV) (n m i : Nat) (us vs : List Value), Gr a n → Gr c m → n ≤ 60 → m ≤ 60 → VI [] s.heap us a → VI [] s.heap vs c →
    ((b && i == 0) = true → ∀ z r, a = .cons z r → ∃ k, z = .int k) → (decide (us.length < vs.length) = fin) → ltD a c x y = true → KatLex prog w A b fin Q (us.zip vs) i s := by
  intro a
  induction a with
  | nil =>
    intro c n m i us vs _ _ _ _ ia ic _ hf hl
    cases ia
    rcases ic.cases with ⟨rfl, rfl⟩ | ⟨c1, c2, v1, vs1, rfl, rfl, rc1, rc2⟩
    · refine kat_nil ?_
      rw [← hf]; exact hy hl
    · refine kat_nil ?_
      rw [← hf]; exact hx hl
  | cons a1 a2 _ ih =>
    rintro c n m i us vs ⟨n, rfl, g1, g2⟩ gc hn hm ⟨u1, us1, rfl, ra1, ra2⟩ ic hi hf hl
    rcases ic.cases with ⟨rfl, rfl⟩ | ⟨c1, c2, v1, vs1, rfl, rfl, rc1, rc2⟩
    · refine kat_nil ?_
      rw [← hf]; exact hy hl
    · obtain ⟨m, rfl, g3, g4⟩ := gc
      have hl' : eqD a1 c1 (ltD a2 c2 x y) (ltD a1 c1 x y) = true := hl
      refine kat_cons (eqAt_py g1 g3 (by omega) (by omega) ra1 rc1 (by omega) prog w _ _ ?_)
      rcases (eqD_iff a1 c1 n m g1 g3 (V.wf ra1) (V.wf rc1) hl').1 with ⟨e, q⟩ | ⟨e, q⟩ <;> rw [e]
      · exact kat_yes (ih c2 n m (i + 1) us1 vs1 g2 g4 (by omega) (by omega) ra2 rc2 (fun q => absurd q (by simp)) (by rw [← hf]; simp) q)
      · refine kat_no ?_
        by_cases hb : (b && i == 0) = true
        · rw [hb]
          obtain ⟨k, rfl⟩ := hi hb _ _ rfl
          obtain ⟨j, rfl, q1⟩ := asInt_iff (show asInt c1 (fun m => ifB (Nat.blt k m) x y) = true from q)
          obtain ⟨t, rfl⟩ := ra1
          obtain ⟨t', rfl⟩ := rc1
          refine oneLt_int ?_
          rcases ifB_iff q1 with ⟨hb, q⟩ | ⟨hb, q⟩
          · have : k < j := Nat.le_of_ble_eq_true hb
            rw [decide_eq_true (by omega : (k : Int) < j)]
            exact hx q
          · have : ¬ k < j := fun q => by
              have : Nat.blt k j = true := Nat.ble_eq_true_of_le q
              rw [this] at hb; cases hb
            rw [decide_eq_false (by omega : ¬ (k : Int) < j)]
            exact hy q
        · rw [Bool.eq_false_iff.mpr hb]
          refine kat_one _ _ ?_
          show wpAny _ _ (richCompare .Lt u1 v1) _ _ _
          exact lt_data n a1 c1 x y m (by omega) (by omega) g1 g3 q A s u1 v1 ra1 rc1 (by omega) _ (fun ex => hx ex) fun ey => hy ey
  | _ => intro c n m i us vs g _ _ _ e; exact e.elim
theorem runGo {κ : SortKind} {vs : List Value} {l : DV} {k : Array Nat → Bool} {Q : Array Nat → Shared → Prop} (hc : ∀ i j x y, cmpC l i j x y = true → ∀ C : Bool → Shared → Prop, (x = true → C true s) → (y = true → C false s) → kas_ask prog w A κ vs i j C s)
    (hQ : ∀ p, k p = true → Q p s) : ∀ t : KasT (Array Nat), runK t (cmpC l) k = true → t.kasWp (kas_ask prog w A κ vs) Q s := by
  intro t
  induction t with
  | ret a => intro h; exact hQ a h
  | ask i j f ih => intro h; exact hc i j _ _ h _ (fun e => ih true e) fun e => ih false e
theorem askGo {b : Bool} {vs : List Value} {l : DV} (hu : A.units + 140 < cLine) (hv : VI [] s.heap vs l) (g : Gr l 60) (ha : AllF (fun a => b = true → ∃ n, a = .int n) l) :
    ∀ i j x y, cmpC l i j x y = true → ∀ C : Bool → Shared → Prop, (x = true → C true s) → (y = true → C false s) → kas_ask prog w A (tuples' b) vs i j C s := by
  intro i j x y hcmp C hx hy
  obtain ⟨a, r, v, e, rv, pa, ga, q⟩ := nthC_all ha g hv (show nthC l i (fun a => nthC l j (fun b => ltD a b x y) false) false = true from hcmp)
  obtain ⟨a', r', v', e', rv', pa', ga', q'⟩ := nthC_all ha g hv q
  obtain ⟨p, us, rfl, ⟨o, ho, _, n, hd⟩, ius⟩ := V.asItems rv trivial
  obtain ⟨p', us', rfl, ⟨o', ho', _, n', hd'⟩, ius'⟩ := V.asItems rv' trivial
  unfold kas_ask
  rw [List.getD_eq_getElem?_getD, List.getD_eq_getElem?_getD, e, e']
  refine kat_lt ho hd ho' hd' ?_
  refine katLex hu hx hy (.cons a r) (.cons a' r') 60 60 0 us us' ga ga' (Nat.le_refl _) (Nat.le_refl _) ius ius' (fun hb z r e => ?_) (by simp) q'
  cases e
  exact pa (by simpa using hb)
theorem AllF.mono {P R : DV → Prop} (f : ∀ a, P a → R a) : ∀ {l : DV}, AllF P l → AllF R l := by
  intro l
  induction l with
  | nil => intro _; trivial
  | cons x y _ ih => rintro ⟨⟨a, r, e, p⟩, h⟩; exact ⟨⟨a, r, e, f a p⟩, ih h⟩
  | _ => intro h; exact h.elim
theorem tupsOf {P : DV → Prop} {h : Heap} : ∀ {l : DV} {vs : List Value}, AllF P l → VI [] h vs l → ∃ fs, KatTups h vs fs ∧ fs.length = vs.length ∧ ∀ v ∈ fs, ∃ a, P a ∧ V [] h v a := by
  intro l
  induction l with
  | nil => intro vs _ e; cases e; exact ⟨[], trivial, rfl, fun _ h => nomatch h⟩
  | cons x y _ ih =>
    rintro vs ⟨⟨a, r, rfl, p⟩, hr⟩ ⟨u, us, rfl, h1, h2⟩
    obtain ⟨fs, t, hl, hf⟩ := ih hr h2
    obtain ⟨q, zs, rfl, ⟨o, ho, hc, n, hd⟩, z, zs', rfl, rz, _⟩ := V.items h1
    refine ⟨z :: fs, KatTups.cons ho hc hd (by simp) t, by rw [List.length_cons, List.length_cons, hl], fun v hv => ?_⟩
    rcases List.mem_cons.mp hv with rfl | hv
    · exact ⟨a, p, rz⟩
    · exact hf v hv
  | _ => intro vs h; exact h.elim
theorem kindGo {vs : List Value} {l : DV} {k : Bool} (hv : VI [] s.heap vs l) (hne : 0 < vs.length) {Q : SortKind → Shared → Prop} :
    (AllF (fun a => ∃ n, a = .int n) l → Q (tuples' true) s → wpAny (model prog w) A (keyKind' vs.toArray) Q E s) ∧ (AllF Chain l → Q (tuples' false) s → wpAny (model prog w) A (keyKind' vs.toArray) Q E s) := by
  constructor
  · intro ha h
    obtain ⟨fs, t, hl, hf⟩ := tupsOf ha hv
    refine kat_kind (T := .type "int") t (hl ▸ hne) (fun v hv => ?_) (by decide) h
    obtain ⟨a, ⟨n, rfl⟩, u, rfl⟩ := hf v hv
    exact Looks.of_pure rfl
  · intro ha h
    obtain ⟨fs, t, hl, hf⟩ := tupsOf ha hv
    refine kat_kind (T := .type "tuple") t (hl ▸ hne) (fun v hv => ?_) (by decide) h
    obtain ⟨a, ca, rv⟩ := hf v hv
    obtain ⟨p, us, rfl, ⟨o, ho, hc, _⟩, _⟩ := V.asItems rv ca
    have := (Looks.ld (M := model prog w) (part := none) ho).andThen (f := fun o => pure o.cls) .now
    rw [hc] at this
    exact this
theorem sortList {a : Addr} {vs : List Value} {l : DV} {k : DV → Bool} {n : Nat} {P : Fin → Shared → Prop} (ho : s.heap.get? a = some (seqObj "list" vs.toArray n)) (hv : VI [] s.heap vs l) (g : Gr l 60) (hk : sortC l k = true) (hu : A.units + 140 < cLine)
    (h : ∀ (out : List Value) (d' : DV), k d' = true → VI [] (sortedHeap s.heap a vs out.toArray) out d' → P (.done (.ret .none)) { s with heap := sortedHeap s.heap a vs out.toArray }) :
    wpAny (model prog w) A (Builtin.«list.sort» ⟨[.ref a], []⟩) P E s := by
  have hz : vs.length ≤ 60 := g.size hv
  have hz1 : vs.length ≤ sizeLine := line60 hz
  rw [list_sort_plain]
  have ha : a < s.heap.objs.size := Heap.lt_size ho
  refine wpAny_bind (listItems_at ho rfl ?_)
  refine wpAny_bind (listUpdate_at ho rfl ?_ (by rw [List.size_toArray]; exact hz1) (Nat.zero_le _))
  obtain ⟨e1, ho1⟩ : ∃ e1, (s.heap.update a (Obj.mapSeq fun _ => (#[] : Array Value))).get? a = some (seqObj "list" #[] e1) := ⟨_, get?_update_seq ho (fun _ => #[])⟩
  refine wpAny_bind (seqEpoch_at ho1 rfl ?_)
  refine wpAny_bind (wpAny_newTuple ?_ (by show vs.length ≤ _; exact hz1))
  refine wpAny_bind (wpAny_newList ?_ (Nat.zero_le _))
  refine wpAny_holding ?_
  have ho6 : (((s.heap.update a (Obj.mapSeq fun _ => #[])).push (seqObj "tuple" vs.toArray 0)).push (seqObj "list" #[] 0)).get? a = some (seqObj "list" #[] e1) := by
    rw [Heap.get?_push_ne _ _ _ (by rw [size_push', Heap.size_update]; exact Nat.ne_of_lt (Nat.lt_succ_of_lt ha)), Heap.get?_push_ne _ _ _ (by rw [Heap.size_update]; exact Nat.ne_of_lt ha)]
    exact ho1
  have notA : ∀ b o, s.heap.get? b = some o → Imm o → b ≠ a := by
    rintro b o e i rfl
    rw [ho] at e; cases e
    rcases i with ⟨_, _, _, q⟩ | ⟨_, q, _⟩
    · exact absurd (Value.type.inj q) (by decide)
    · cases q
  have im6 : ImmK s.heap (((s.heap.update a (Obj.mapSeq fun _ => #[])).push (seqObj "tuple" vs.toArray 0)).push (seqObj "list" #[] 0)) := fun b o e i =>
    Heap.get?_push_of_some _ (Heap.get?_push_of_some _ ((Heap.get?_update_ne _ _ _ _ (notA b o e i)).trans e))
  have imE : ∀ out, ImmK s.heap (sortedHeap s.heap a vs out) := fun out b o e i => (sortedHeap_old (notA b o e i) (Heap.lt_size e)).trans e
  show wpAny (model prog w) A _ P E { s with heap := ((s.heap.update a (Obj.mapSeq fun _ => #[])).push (seqObj "tuple" vs.toArray 0)).push (seqObj "list" #[] 0) }
  dsimp only
  have hsz : vs.toArray.size = vs.length := by simp
  have q := lenC_iff hv hk
  rcases ifB_iff q with ⟨hlt, q⟩ | ⟨hlt, q⟩
  · have h2 : vs.toArray.size < 2 := by rw [hsz]; exact Nat.le_of_ble_eq_true hlt
    rw [if_pos h2, if_pos h2]
    refine wpAny_bind (wpAny_pure ?_)
    rw [StateT.run_pure]
    refine wpAny_bind (wpAny_pure ?_)
    dsimp only
    have hout : ((arrOf (SortSt.mk' general' (vs.toArray.zip vs.toArray) #[] 7 none)).map (·.2)) = vs.toArray := by
      show ((vs.toArray.zip vs.toArray).map (·.2)) = vs.toArray
      apply Array.toList_inj.mp
      rw [Array.toList_map]
      show List.map (·.2) (pairsOf vs).toList = vs
      rw [pairsOf_toList]
      exact List.map_snd_zip (Nat.le_refl _)
    rw [hout]
    refine wpAny_bind (seqEpoch_at ho6 rfl ?_)
    refine wpAny_bind (listUpdate_at ho6 rfl ?_ (hsz2 := by rw [hsz]; exact Nat.le_succ_of_le hz1))
    simp only [bne_self_eq_false, Bool.false_eq_true, if_false]
    exact wpAny_pure (h vs l q (hv.imm (imE _)))
  · have h2 : ¬ vs.toArray.size < 2 := fun q => by
      rw [hsz] at q
      have : Nat.blt vs.length 2 = true := Nat.ble_eq_true_of_le q
      rw [this] at hlt; cases hlt
    rcases ifB_iff q with ⟨h64, q⟩ | ⟨_, q⟩
    case inr => cases q
    have h64' : vs.length < 64 := Nat.le_of_ble_eq_true h64
    have h2' : 2 ≤ vs.length := by omega
    have hv6 := hv.imm im6
    rw [if_neg h2, if_neg h2]
    have go : ∀ b : Bool, AllF (fun a => b = true → ∃ n, a = .int n) l → sortGo l vs.length k = true →
        (kas_sort vs.length).kasWp (kas_ask prog w A (tuples' b) vs) (fun p s' => s' = { s with heap := ((s.heap.update a (Obj.mapSeq fun _ => #[])).push (seqObj "tuple" vs.toArray 0)).push (seqObj "list" #[] 0) } ∧ pickC l p.toList k = true)
          { s with heap := ((s.heap.update a (Obj.mapSeq fun _ => #[])).push (seqObj "tuple" vs.toArray 0)).push (seqObj "list" #[] 0) } :=
      fun b hall q => runGo (askGo (s := { s with heap := ((s.heap.update a (Obj.mapSeq fun _ => #[])).push (seqObj "tuple" vs.toArray 0)).push (seqObj "list" #[] 0) }) hu hv6 g hall) (fun p hp => ⟨rfl, hp⟩) _ q
    have fin : ∀ b : Bool, AllF (fun a => b = true → ∃ n, a = .int n) l → sortGo l vs.length k = true → wpAny (model prog w) A ((sortRuns').run (SortSt.mk' (tuples' b) (vs.toArray.zip vs.toArray) #[] 7 none))
        (fun r s' => s' = { s with heap := ((s.heap.update a (Obj.mapSeq fun _ => #[])).push (seqObj "tuple" vs.toArray 0)).push (seqObj "list" #[] 0) } ∧ failedOf r.2 = none ∧ ∃ p : Array Nat, p.size = vs.length ∧ pickC l p.toList k = true ∧ (arrOf r.2).map (·.2) = List.toArray (p.toList.map fun i => vs.getD i Value.none)) E
        { s with heap := ((s.heap.update a (Obj.mapSeq fun _ => #[])).push (seqObj "tuple" vs.toArray 0)).push (seqObj "list" #[] 0) } :=
      fun b hall q => kat_run (Q := fun st' s' => s' = { s with heap := ((s.heap.update a (Obj.mapSeq fun _ => #[])).push (seqObj "tuple" vs.toArray 0)).push (seqObj "list" #[] 0) } ∧ failedOf st' = none ∧ ∃ p : Array Nat, p.size = vs.length ∧ pickC l p.toList k = true ∧ (arrOf st').map (·.2) = List.toArray (p.toList.map fun i => vs.getD i Value.none))
        rfl h2' h64' (fun p st' s' hp har hf hg => ⟨hg.1, hf, p, hp, hg.2, kat_snds rfl har⟩) (go b hall q)
    have rest : ∀ b : Bool, AllF (fun a => b = true → ∃ n, a = .int n) l → sortGo l vs.length k = true → wpAny (model prog w) A (do
        let ((), s) ← (sortRuns').run (SortSt.mk' (tuples' b) (vs.toArray.zip vs.toArray) #[] 7 none)
        let sorted := (arrOf s).map (·.2)
        let touched := (← seqEpoch a) != e1
        Builtin.List.listUpdate (.ref a) fun _ => sorted
        if let some e := failedOf s then rule "list.sort.comparison-raised"; throw e
        if touched then rule "list.sort.modified"; raiseError "ValueError" "list modified during sort"
        ret .none) P E { s with heap := ((s.heap.update a (Obj.mapSeq fun _ => #[])).push (seqObj "tuple" vs.toArray 0)).push (seqObj "list" #[] 0) } := by
      intro b hall q
      refine wpAny_bind (wpAny_mono (fin b hall q) ?_ fun _ _ e => e)
      rintro ⟨⟨⟩, st'⟩ s' ⟨rfl, hf, p, hp, hpk, hout⟩
      dsimp only at hf hout ⊢
      obtain ⟨d', kd, rd⟩ := pick_iff hv hpk
      rw [hout]
      refine wpAny_bind (seqEpoch_at ho6 rfl ?_)
      refine wpAny_bind (listUpdate_at ho6 rfl ?_ (hsz2 := by rw [List.size_toArray, List.length_map, Array.length_toList, hp]; exact Nat.le_succ_of_le hz1))
      rw [hf]
      simp only [bne_self_eq_false, Bool.false_eq_true, if_false]
      exact wpAny_pure (h _ d' kd (rd.imm (imE _)))
    obtain ⟨x, y, rfl, q⟩ := asCons_iff q
    obtain ⟨c, r, rfl, q⟩ := asCons_iff q
    have hne : 0 < vs.length := by omega
    cases c with
    | int i =>
      obtain ⟨hall, q⟩ := firstsI_iff (show firstsI _ _ = true from q)
      exact wpAny_bind ((kindGo hv6 hne (k := true)).1 hall (rest true (hall.mono fun a p _ => p) q))
    | cons c1 c2 =>
      obtain ⟨hall, q⟩ := firstsT_iff (show firstsT _ _ = true from q)
      exact wpAny_bind ((kindGo hv6 hne (k := true)).2 hall (rest false (hall.mono fun a p e => by cases e) q))
    | _ => exact absurd q (by simp)
theorem sortedGo {l : Addr} {T : String} {o : Obj} {vs : List Value} {d : DV} {k : DV → Bool} {n : Nat} {Q : Value → Shared → Prop} (hT : T = "list" ∨ T = "tuple") (ho : s.heap.get? l = some o) (hc : o.cls = .type T) (hd : o.data = .seq vs.toArray n) (hv : VI [] s.heap vs d) (g : Gr d 60) (hk : sortC d k = true) (hu : A.units + 200 < cLine)
    (h : ∀ (h' : Heap) (D : Addr) (out : List Value) (d' : DV), k d' = true → (∀ b o, s.heap.get? b = some o → h'.get? b = some o) → s.heap.get? D = none → IsL h' D out.toArray → VI [] h' out d' → Q (.ref D) { s with heap := h' }) :
    wpAny (model prog w) A (call (.builtin "sorted") [.ref l]) Q E s := by
  have hz1 : vs.length ≤ sizeLine := line60 (g.size hv)
  refine Calls.call_function_entry kind_sorted plain_sorted entry_sorted (args_sorted1 _) ?_
  unfold Builtin.«sorted»
  refine wpAny_bind (m := checkCount "sorted" 1 1 _) (wpAny_pure ?_)
  refine wpAny_bind (wpAny_collect_seq l hT ho hc hd (fun h₁ k₁ => ?_) (by rw [List.size_toArray]; exact hz1))
  rw [List.toList_toArray]
  refine wpAny_bind (wpAny_newList ?_ hz1)
  have hoL : (h₁.push (seqObj "list" vs.toArray 0)).get? h₁.objs.size = some (seqObj "list" vs.toArray 0) := Heap.get?_push_size _ rfl
  have k₂ : ∀ b o, s.heap.get? b = some o → (h₁.push (seqObj "list" vs.toArray 0)).get? b = some o := fun b o e => push_keep _ _ b o (k₁ b o e)
  have fresh : s.heap.get? h₁.objs.size = none := by
    cases q : s.heap.get? h₁.objs.size with
    | none => rfl
    | some o => exact absurd (Heap.lt_size (k₁ _ _ q)) (Nat.lt_irrefl _)
  show wpAny _ _ _ _ _ { s with heap := h₁.push (seqObj "list" vs.toArray 0) }
  refine wpAny_bind (wpAny_holding (wpAny_call_entry slot_list_sort ⟨_, hoL, rfl⟩ entry_list_sort (sortList (s := { s with heap := h₁.push (seqObj "list" vs.toArray 0) }) hoL (hv.imm (ImmK.of_keep k₂)) g hk (by show A.units + 1 + 1 + 140 < cLine; omega) fun out d' kd rd => ⟨_, rfl, ?_⟩) (args_list_sort _)))
  obtain ⟨e, he⟩ := sortedHeap_at (out := out.toArray) hoL
  exact wpAny_pure ⟨_, rfl, h _ _ out d' kd (fun b o q => (sortedHeap_old (fun e => by subst e; rw [fresh] at q; cases q) (Heap.lt_size (k₂ b o q))).trans (k₂ b o q)) fresh ⟨e, he⟩ rd⟩
end

variable {Z : Base}
section
variable {cx : Cx}
theorem afterSort {env : Env} {c f : Sl} {σ : Sto} {α : List Addr} {s : Shared} {k : K1} {Q : Value → Shared → Prop} (I : IN Z cx env c f σ α s.heap)
    (hQ : ∀ d σ' a vs α' h' tk', k d σ' = true → IN Z cx env c f σ' α' h' → Ext cx env α s.heap α' h' → IsL h' a (List.toArray vs) → VI α' h' vs d → s.heap.get? a = none → ¬ Own cx env α' a → Q (.ref a) { s with heap := h', toks := tk' }) :
    ∀ (h' : Heap) (D : Addr) (out : List Value) (d' : DV), k d' σ = true → (∀ b o, s.heap.get? b = some o → h'.get? b = some o) → s.heap.get? D = none → IsL h' D out.toArray → VI [] h' out d' → Q (.ref D) { s with heap := h' } :=
  fun h' D out d' kd kk fr L r => hQ d' σ D out α h' s.toks kd (I.grow kk) (Ext.grow kk) L r.lift fr (new_notOwn I fr)
theorem SL.sortL {pos p1 : Pos} {x : Str} {e : PySem.Expr} {g : GE} (hg : globOf cx x = true) (hx : x = "sorted") (hs : NS e) (he : SL Z cx e g) : SL Z cx (.Call (.Name x p1) [e] [] pos) (lSortL g) := by
  subst hx
  intro m R A env c f σ α s k hR hA I hk Q hQ
  refine callBi (id := "sorted") I hg (by simp [bis]) (by decide) (fun y hy => by simp only [List.mem_singleton] at hy; subst hy; exact hs) (one hs (he hR hA I hk _ fun d σ₁ a vs α₁ h₁ t₁ hk₁ I₁ E₁ L₁ V₁ f₁ n₁ => ?_))
  obtain ⟨g1, q⟩ := ck_iff hk₁
  obtain ⟨n, hL⟩ := L₁
  refine sortedGo (.inl rfl) hL rfl rfl (V₁.ground g1) g1 q (by have := hA.un; omega) ?_
  refine afterSort (s := { s with heap := h₁, toks := t₁ }) I₁ fun d σ' a vs α' h' tk' kd I' E' L' r fr no => ?_
  exact hQ d σ' a vs α' h' tk' kd I' (E₁.trans E') L' r (E₁.fresh fr) no
theorem SL.sortE {pos p1 : Pos} {x : Str} {e : PySem.Expr} {g : GE} (hg : globOf cx x = true) (hx : x = "sorted") (hs : NS e) (he : SE Z cx e g) : SL Z cx (.Call (.Name x p1) [e] [] pos) (lSortE g) := by
  subst hx
  intro m R A env c f σ α s k hR hA I hk Q hQ
  refine callBi (id := "sorted") I hg (by simp [bis]) (by decide) (fun y hy => by simp only [List.mem_singleton] at hy; subst hy; exact hs) (one hs (he hR hA I hk _ fun d σ₁ v α₁ h₁ t₁ hk₁ I₁ E₁ V₁ => ?_))
  have fin : ∀ (l : Addr) (T : String) (o : Obj) (vs : List Value) (n : Nat) (d' : DV), (T = "list" ∨ T = "tuple") → h₁.get? l = some o → o.cls = .type T → o.data = .seq vs.toArray n → VI α₁ h₁ vs d' → ck d' (sortC d' fun l => k l σ₁) = true →
      wpAny (model Z.prog Z.w) A (call (.builtin "sorted") [.ref l]) Q NoE { s with heap := h₁, toks := t₁ } := by
    intro l T o vs n d' hT ho hc hd hv q
    obtain ⟨g1, q⟩ := ck_iff q
    refine sortedGo hT ho hc hd (hv.ground g1) g1 q (by have := hA.un; omega) ?_
    refine afterSort (s := { s with heap := h₁, toks := t₁ }) I₁ fun d σ' a vs α' h' tk' kd I' E' L' r fr no => ?_
    exact hQ d σ' a vs α' h' tk' kd I' (E₁.trans E') L' r (E₁.fresh fr) no
  rcases seqOf_iff hk₁ with ⟨n, l, rfl, e1, q⟩ | ⟨cd, q⟩
  · obtain ⟨a, vs, rfl, ha, ⟨n, hl⟩, hv, hG⟩ := I₁.list V₁ e1
    exact fin a "list" _ vs n l (.inl rfl) hl rfl rfl hv.lift q
  · obtain ⟨a, vs, rfl, ⟨o, ho, hc, n, hd⟩, hv⟩ := V₁.asItems cd
    exact fin a "tuple" o vs n d (.inr rfl) ho hc hd hv q
end
end Mine

set_option maxRecDepth 100000
namespace Mine
open PySem PySem.W PyProof.Rows PySem.Calls PySem.SeqAt

variable {Z : Base}
section
variable {cx : Cx}
-- lists joined, a slice
theorem SL.addEL {pos : Pos} {l r : PySem.Expr} {gl gr : GE} (hl : SE Z cx l gl) (hr : SL Z cx r gr) : SL Z cx (.BinOp l .Add r pos) (lAddEL gl gr) := by
  intro m R A env c f σ α s k hR hA I hk Q hQ
  refine wpAny_BinOp (hl hR hA I hk _ fun a σ₁ v₁ α₁ h₁ t₁ hk₁ I₁ E₁ V₁ => hr hR hA I₁ hk₁ _ fun b σ₂ x₂ ws α₂ h₂ t₂ hk₂ I₂ E₂ L₂ V₂ f₂ n₂ => ?_)
  obtain ⟨n, l, rfl, e, q⟩ := listAt_iff hk₂
  obtain ⟨gb, q⟩ := ck_iff q
  have q := appC_iff q
  obtain ⟨p, vs, rfl, hp, L, Vl, gl⟩ := I₂.list (E₂.V V₁) e
  refine addList (s := { s with heap := h₂, toks := t₂ }) L.isList L₂.isList (fun h' kk L' => ?_) (line120 (gl.size Vl) (gb.size V₂))
  have E₃ := (E₁.trans E₂).trans (Ext.grow (cx := cx) (env := env) (α := α₂) kk)
  exact hQ _ σ₂ _ (vs ++ ws) α₂ h' _ q (I₂.grow kk) E₃ L' ((VI.app V₂ Vl.lift).imm (ImmK.of_keep kk)) ((E₁.trans E₂).fresh (fresh_none h₂)) (new_notOwn I₂ (fresh_none h₂))
theorem SL.addLE {pos : Pos} {l r : PySem.Expr} {gl gr : GE} (hl : SL Z cx l gl) (hr : SE Z cx r gr) : SL Z cx (.BinOp l .Add r pos) (lAddLE gl gr) := by
  intro m R A env c f σ α s k hR hA I hk Q hQ
  refine wpAny_BinOp (hl hR hA I hk _ fun a σ₁ x₁ ws α₁ h₁ t₁ hk₁ I₁ E₁ L₁ V₁ f₁ n₁ => hr hR hA I₁ hk₁ _ fun b σ₂ v₂ α₂ h₂ t₂ hk₂ I₂ E₂ V₂ => ?_)
  obtain ⟨n, l, rfl, e, q⟩ := listAt_iff hk₂
  obtain ⟨ga, q⟩ := ck_iff q
  have q := appC_iff q
  obtain ⟨p, vs, rfl, hp, L, Vl, gl⟩ := I₂.list V₂ e
  have V₁' := E₂.VI V₁
  refine addList (s := { s with heap := h₂, toks := t₂ }) (keepList E₂ n₁ L₁).isList L.isList (fun h' kk L' => ?_) (line120 (ga.size V₁) (gl.size Vl))
  have E₃ := (E₁.trans E₂).trans (Ext.grow (cx := cx) (env := env) (α := α₂) kk)
  exact hQ _ σ₂ _ (ws ++ vs) α₂ h' _ q (I₂.grow kk) E₃ L' ((VI.app Vl.lift V₁').imm (ImmK.of_keep kk)) ((E₁.trans E₂).fresh (fresh_none h₂)) (new_notOwn I₂ (fresh_none h₂))
theorem dropC_iff {α : List Addr} {h : Heap} : ∀ {n : Nat} {d : DV} {vs : List Value} {k : DV → Bool}, VI α h vs d → dropC n d k = true → n ≤ vs.length ∧ ∃ d', k d' = true ∧ VI α h (vs.drop n) d'
  | 0, d, vs, k, r, q => ⟨Nat.zero_le _, d, q, r⟩
  | n + 1, d, vs, k, r, q => by
    rcases asCh_iff (show asCh d false (fun _ t => dropC n t k) = true from q) with ⟨_, q⟩ | ⟨x, y, rfl, q⟩
    · cases q
    · obtain ⟨u, us, rfl, h1, h2⟩ := r
      obtain ⟨hn, d', q', r'⟩ := dropC_iff h2 q
      exact ⟨Nat.succ_le_succ hn, d', q', r'⟩
theorem SL.slc {pos p2 : Pos} {o lo : PySem.Expr} {go gi : GE} (ht : ∀ x r, letTemporaryGo o x r = pure ()) (ho : SE Z cx o go) (hi : SE Z cx lo gi) : SL Z cx (.Subscript o (.Slice (some lo) none none p2) pos) (lSlc go gi) := by
  intro m R A env c f σ α s k hR hA I hk Q hQ
  refine wpAny_Subscript_list_slice (ho hR hA I hk _ fun a σ₁ v₁ α₁ h₁ t₁ hk₁ I₁ E₁ V₁ => evalPart_some_step (hi hR hA I₁ hk₁ _ fun b σ₂ v₂ α₂ h₂ t₂ hk₂ I₂ E₂ V₂ => evalPart_none_step ?_)) ht
  obtain ⟨n, rfl, q⟩ := asInt_iff hk₂
  obtain ⟨n', l, rfl, e, q⟩ := listAt_iff q
  obtain ⟨p, vs, rfl, hp, L, Vl, gl⟩ := I₂.list (E₂.V V₁) e
  obtain ⟨t, rfl⟩ := V₂
  obtain ⟨hn, d', q, r⟩ := dropC_iff Vl q
  refine ⟨p, vs.toArray, _, _, rfl, L.isList, by rw [List.size_toArray]; exact line60 (gl.size Vl), .int _ t, .none, ?_⟩
  rw [slicePick_from _ _ (by rw [List.size_toArray]; exact hn), List.toList_toArray]
  have k₁ := push_keep h₂ { cls := .type "slice", data := .fields #[.int (n : Int) t, .none, .none] }
  have k₂ := push_keep (h₂.push { cls := .type "slice", data := .fields #[.int (n : Int) t, .none, .none] }) { cls := .type "list", data := .seq (vs.drop n).toArray }
  have kk : ∀ b o, h₂.get? b = some o → ((h₂.push { cls := .type "slice", data := .fields #[.int (n : Int) t, .none, .none] }).push { cls := .type "list", data := .seq (vs.drop n).toArray }).get? b = some o := fun b o e => k₂ b o (k₁ b o e)
  have hsz : (h₂.push { cls := .type "slice", data := .fields #[.int (n : Int) t, .none, .none] }).objs.size = h₂.objs.size + 1 := Heap.size_push ..
  have fr : h₂.get? (h₂.objs.size + 1) = none := Heap.get?_none_of_le (Nat.le_succ _)
  refine hQ d' σ₂ _ (vs.drop n) α₂ _ t₂ q (I₂.grow kk) ((E₁.trans E₂).trans (Ext.grow kk)) ⟨0, ?_⟩ (r.lift.imm (ImmK.of_keep kk)) ((E₁.trans E₂).fresh fr) (new_notOwn I₂ fr)
  rw [← hsz]
  exact Heap.get?_push_size _ rfl

-- max of ints
theorem maxC_iff {α : List Addr} {h : Heap} {k : Nat → Bool} : ∀ {d : DV} {m : Nat} {vs : List Value}, VI α h vs d → maxC m d k = true → ∃ ns : List (Int × Tok), vs = ns.map (fun p => .int p.1 p.2) ∧ ∃ M : Nat, k M = true ∧ m ≤ M ∧ (∀ p ∈ ns, p.1 ≤ (M : Int)) ∧ (M = m ∨ ∃ p ∈ ns, p.1 = (M : Int)) := by
  intro d
  induction d with
  | nil => intro m vs e q; cases e; exact ⟨[], rfl, m, q, Nat.le_refl _, (fun _ h => nomatch h), .inl rfl⟩
  | cons x y _ ih =>
    rintro m vs ⟨u, us, rfl, h1, h2⟩ q
    obtain ⟨i, rfl, q⟩ := asInt_iff (show asInt x (fun i => ifB (Nat.blt m i) (maxC i y k) (maxC m y k)) = true from q)
    obtain ⟨t, rfl⟩ := h1
    rcases ifB_iff q with ⟨hb, q⟩ | ⟨hb, q⟩
    · have hlt : m < i := Nat.le_of_ble_eq_true hb
      obtain ⟨ns, rfl, M, kM, hM, hall, hor⟩ := ih h2 q
      refine ⟨((i : Int), t) :: ns, rfl, M, kM, by omega, fun p hp => ?_, .inr ?_⟩
      · rcases List.mem_cons.mp hp with rfl | hp
        · exact Int.ofNat_le.mpr hM
        · exact hall p hp
      · rcases hor with rfl | ⟨p, hp, e⟩
        · exact ⟨_, List.mem_cons_self, rfl⟩
        · exact ⟨p, List.mem_cons_of_mem _ hp, e⟩
    · have hlt : i ≤ m := by
        rcases Nat.lt_or_ge m i with h | h
        · have : Nat.blt m i = true := Nat.ble_eq_true_of_le h
          rw [this] at hb; cases hb
        · exact h
      obtain ⟨ns, rfl, M, kM, hM, hall, hor⟩ := ih h2 q
      refine ⟨((i : Int), t) :: ns, rfl, M, kM, hM, fun p hp => ?_, ?_⟩
      · rcases List.mem_cons.mp hp with rfl | hp
        · show (i : Int) ≤ M; omega
        · exact hall p hp
      · rcases hor with rfl | ⟨p, hp, e⟩
        · exact .inl rfl
        · exact .inr ⟨p, List.mem_cons_of_mem _ hp, e⟩
  | _ => intro m vs e; exact e.elim
theorem SE.maxL {pos p1 : Pos} {x : Str} {e : PySem.Expr} {g : GE} (hg : globOf cx x = true) (hx : x = "max") (hs : NS e) (he : SL Z cx e g) : SE Z cx (.Call (.Name x p1) [e] [] pos) (eMaxL g) := by
  subst hx
  intro m R A env c f σ α s k hR hA I hk Q hQ
  refine callBi (id := "max") I hg (by simp [bis]) (by decide) (fun y hy => by simp only [List.mem_singleton] at hy; subst hy; exact hs) (one hs (he hR hA I hk _ fun d σ₁ a vs α₁ h₁ t₁ hk₁ I₁ E₁ L₁ V₁ f₁ n₁ => ?_))
  obtain ⟨g1, q⟩ := ck_iff hk₁
  obtain ⟨x, y, rfl, q⟩ := asCons_iff q
  obtain ⟨i, rfl, q⟩ := asInt_iff q
  obtain ⟨u, us, rfl, ⟨t, rfl⟩, V₂⟩ := V₁
  obtain ⟨ns, rfl, M, kM, hM, hall, hor⟩ := maxC_iff V₂ q
  have hit : (Value.int (i : Int) t :: ns.map fun p => Value.int p.1 p.2).toArray = intItems (((i : Int), t) :: ns).toArray := by
    simp [intItems]
  have L₂ := L₁.isList
  rw [hit] at L₂
  refine max_intList hA.hd L₂ (by simp) fun v h' tk hv hk' => ?_
  obtain ⟨hle, hbest⟩ := argBest_gt (numAt (((i : Int), t) :: ns).toArray) ((((i : Int), t) :: ns).toArray.size - 1)
  generalize argBest (fun i_1 j => decide (numAt (((i : Int), t) :: ns).toArray i_1 > numAt (((i : Int), t) :: ns).toArray j)) ((((i : Int), t) :: ns).toArray.size - 1) = j0 at hv hle hbest
  obtain ⟨t', rfl⟩ := intItems_at hv
  have hat : ∀ j p, (((i : Int), t) :: ns)[j]? = some p → numAt (((i : Int), t) :: ns).toArray j = p.1 := fun j p e => by
    unfold numAt
    rw [List.getElem?_toArray, e]; rfl
  have hj0 : j0 < (((i : Int), t) :: ns).length := by simp at hle ⊢; omega
  have hup : ∀ p ∈ ((i : Int), t) :: ns, p.1 ≤ (M : Int) := fun p hp => by
    rcases List.mem_cons.mp hp with rfl | hp
    · show (i : Int) ≤ M; omega
    · exact hall p hp
  have h1 : numAt (((i : Int), t) :: ns).toArray j0 ≤ (M : Int) := by
    rw [hat j0 _ (List.getElem?_eq_getElem hj0)]
    exact hup _ (List.getElem_mem hj0)
  have h2 : (M : Int) ≤ numAt (((i : Int), t) :: ns).toArray j0 := by
    have : ∃ p ∈ ((i : Int), t) :: ns, p.1 = (M : Int) := by
      rcases hor with rfl | ⟨p, hp, e⟩
      · exact ⟨_, List.mem_cons_self, rfl⟩
      · exact ⟨p, List.mem_cons_of_mem _ hp, e⟩
    obtain ⟨p, hp, e⟩ := this
    obtain ⟨j, hj, rfl⟩ := List.mem_iff_getElem.mp hp
    rw [← e, ← hat j _ (List.getElem?_eq_getElem hj)]
    exact hbest j (by simp at hj ⊢; omega)
  have h3 : numAt (((i : Int), t) :: ns).toArray j0 = (M : Int) := by omega
  rw [h3]
  exact hQ (.int M) σ₁ _ α₁ h' tk kM (I₁.grow hk') (E₁.trans (Ext.grow hk')) ⟨t', rfl⟩
end
end Mine

set_option maxRecDepth 100000
namespace Mine
open PySem PySem.W PyProof.Rows PySem.Calls PySem.SeqAt

variable {Z : Base}
section
variable {cx : Cx}
/-- after a call: the store may have turned, all else stays -/
theorem Inv.called {env : Env} {c f : Sl} {σ σ' : Sto} {α : List Addr} {h h' : Heap} (I : IN Z cx env c f σ α h) (st : StoOk Z.prog Z.w α σ' h') (kp : ∀ b o, h.get? b = some o → b ∉ α → h'.get? b = some o) :
    IN Z cx env c f σ' α h' ∧ Ext cx env α h α h' := by
  have im : ImmK h h' := fun b o e i => kp b o e fun q => I.notOwn e i (.inr (.inr q))
  refine ⟨⟨fun b o e => kp b o (I.base b o e) (fun q => ?_), st, ?_, I.fL, I.fC, I.fA, I.aL, I.aC⟩, ⟨⟨[], (List.append_nil _).symm, fun _ x => nomatch x⟩, fun b o e no => kp b o e fun q => no (.inr (.inr q)), fun b o e => ?_, im⟩⟩
  · rw [I.fA b q] at e; cases e
  · have := I.fr.step [] (fun o e => kp _ o e I.aL) (fun b o hb e => kp b o e (I.aC b hb)) im
    rwa [List.append_nil] at this
  · by_cases q : b ∈ α
    · obtain ⟨n, hn, rfl⟩ := List.mem_iff_getElem.mp q
      have hn' : n < σ'.length := st.len ▸ hn
      obtain ⟨ob, e', _⟩ := (st.obj n _ _ (List.getElem?_eq_getElem hn) (List.getElem?_eq_getElem hn')).there
      exact ⟨ob, e'⟩
    · exact ⟨o, kp b o e q⟩
theorem callGo {pos p1 : Pos} {x : Str} {e : PySem.Expr} {es : List PySem.Expr} {n : Nat} {gs : GE} {m : Nat} {R : FSem} {A : Around} {env : Env} {c f : Sl} {σ : Sto} {α : List Addr} {s : Shared} {k' : RV → Sto → Bool} (hg : globOf cx x = true) (hx : at? defs x = some n) (hd : (x == ("__debug__" : Str)) = false)
    (hes : SEs Z cx (e :: es) gs) (hR : RS Z m R) (hA : Room m A) (I : IN Z cx env c f σ α s.heap) (hk : (gs R c f σ fun ds σ => R n ds σ k') = true) (Q : Value → Shared → Prop)
    (hQ : ∀ r σ' v α' h₁ h' tk', k' r σ' = true → Ext cx env α s.heap α' h₁ → IN Z cx env c f σ' α' h' → Ext cx env α' h₁ α' h' → RVOk Z α' h₁ h' v r → (∀ a, h₁.get? a = none → ¬ Own cx env α' a) → Q v { s with heap := h', toks := tk' }) :
    wpAny (model Z.prog Z.w) A (eval (.Call (.Name x p1) (e :: es) [] pos) env) Q NoE s := by
  obtain ⟨_, o, fd, ho, hdt⟩ := Z.fn x n hx
  refine Call_ (evalFn I hg hx hd (callWith_def (o := o) hdt ?_ (hes.1 e List.mem_cons_self es env)))
  refine hes.2.2 hR hA I hk pos _ fun ds σ₁ vs α₁ h₁ t₁ hk₁ I₁ E₁ V₁ hn => ⟨I₁.base _ _ ho, ?_⟩
  refine hR n ds σ₁ _ hk₁ A α₁ { s with heap := h₁, toks := t₁ } vs hA I₁.base I₁.sto I₁.fA V₁ _ fun r σ' v h' tk' kr st kp rv => ?_
  obtain ⟨I₂, E₂⟩ := I₁.called st kp
  exact hQ r σ' v α₁ h₁ h' tk' kr E₁ I₂ E₂ rv fun a ha => new_notOwn I₁ ha
theorem Ext.noneBack {env : Env} {α α' : List Addr} {h h' : Heap} {a : Addr} (x : Ext cx env α h α' h') (e : h'.get? a = none) : h.get? a = none := x.fresh e
theorem SE.call {pos p1 : Pos} {x : Str} {e : PySem.Expr} {es : List PySem.Expr} {n : Nat} {gs : GE} (hg : globOf cx x = true) (hx : at? defs x = some n) (hd : (x == ("__debug__" : Str)) = false) (hes : SEs Z cx (e :: es) gs) : SE Z cx (.Call (.Name x p1) (e :: es) [] pos) (eCall n gs) := by
  intro m R A env c f σ α s k hR hA I hk Q hQ
  refine callGo hg hx hd hes hR hA I hk Q fun r σ' v α' h₁ h' tk' kr E₁ I₂ E₂ rv no => ?_
  have E := E₁.trans E₂
  cases r with
  | val d => exact hQ d σ' v α' h' tk' kr I₂ E rv
  | list d =>
    obtain ⟨a, rfl, fr, ob⟩ := rv
    have fr' := E₁.fresh fr
    have kr' := kr
    rw [show trackR (.list d) σ' k = addO σ' (.list d) fun n σ => k (.loc n) σ from rfl, addO_eq] at kr'
    refine hQ _ _ _ (α' ++ [a]) h' tk' kr' (I₂.adopt (no a fr) (base_none I fr') ob) (E.adopt fr') ⟨a, ?_, rfl⟩
    rw [← I₂.sto.len]
    exact List.getElem?_concat_length
  | dict d =>
    obtain ⟨a, rfl, fr, ob⟩ := rv
    have fr' := E₁.fresh fr
    have kr' := kr
    rw [show trackR (.dict d) σ' k = addO σ' (.dict d) fun n σ => k (.loc n) σ from rfl, addO_eq] at kr'
    refine hQ _ _ _ (α' ++ [a]) h' tk' kr' (I₂.adopt (no a fr) (base_none I fr') ob) (E.adopt fr') ⟨a, ?_, rfl⟩
    rw [← I₂.sto.len]
    exact List.getElem?_concat_length
theorem SL.call {pos p1 : Pos} {x : Str} {e : PySem.Expr} {es : List PySem.Expr} {n : Nat} {gs : GE} (hg : globOf cx x = true) (hx : at? defs x = some n) (hd : (x == ("__debug__" : Str)) = false) (hes : SEs Z cx (e :: es) gs) : SL Z cx (.Call (.Name x p1) (e :: es) [] pos) (lCall n gs) := by
  intro m R A env c f σ α s k hR hA I hk Q hQ
  refine callGo hg hx hd hes hR hA I hk Q fun r σ' v α' h₁ h' tk' kr E₁ I₂ E₂ rv no => ?_
  cases r with
  | list d =>
    obtain ⟨a, rfl, fr, vs, L, V, g⟩ := rv
    exact hQ d σ' a vs α' h' tk' kr I₂ (E₁.trans E₂) L V.lift (E₁.fresh fr) (no a fr)
  | _ => exact absurd kr (by simp)
end
end Mine

set_option maxRecDepth 100000
namespace Mine
open PySem PySem.W PyProof.Rows PySem.Calls PySem.SeqAt

section
variable {prog : Program} {w : World} {A : Around} {E : Value → Shared → Prop} {s : Shared}
-- a dict's views, entry by entry
theorem iterItems {v d : Addr} {od : Obj} {es : Array DictEntry} {ep : Nat} {Q : Value → Shared → Prop} (hv : s.heap.IsItemsView v d) (ho : s.heap.get? d = some od) (hd : od.data = .dict es ep)
    (hQ : Q (.ref s.heap.objs.size) { s with heap := s.heap.push { cls := .type "dict_itemiterator", data := .fields #[.none, .bool false, .ref d, .int 0 0, .int es.size 0, .int ep 0, .none, .none] } }) :
    wpAny (model prog w) A (pyIter (.ref v)) Q E s := by
  obtain ⟨ov, hov, hcv, hdv⟩ := id hv
  refine wpAny_pyIter_slot hv.typeIs F.slot_dict_items_iter (wpAny_call_entry F.slot_dict_items_iter hv.typeIs F.entry_dict_items_iter ?_ (F.args_dict_items_iter_1 _))
  unfold Builtin.«dict_items.__iter__»
  refine wpAny_bind (wpAny_pure ?_)
  refine wpAny_bind ?_
  unfold Builtin.Dict_items.dictOf
  refine wpAny_bind (wpAny_field hov hdv (x := .ref d) rfl (wpAny_pure ?_))
  refine wpAny_bind ?_
  unfold Builtin.Dict_items.newIterator
  refine wpAny_bind (wpAny_dictEntries ho hd (wpAny_bind (wpAny_dictEpoch ho hd ?_)))
  simp only [show Builtin.Dict_items.ownsTuple "dict_itemiterator" = true by decide, if_true]
  refine wpAny_newObj_type (wpAny_pure ⟨_, rfl, "dict_itemiterator", _, ⟨_, Heap.get?_push_size _ rfl, rfl⟩, F.slot_dict_itemiterator_next.lookup, ?_⟩)
    (by simp only [sizeOk, Builtin.Dict_items.ownedTupleFields, List.size_toArray, List.length_append, List.length_cons, List.length_nil, sizeLine_eq]; omega)
  simpa [rawInt, Builtin.Dict_items.ownedTupleFields] using hQ
theorem iterValues {v d : Addr} {od : Obj} {es : Array DictEntry} {ep : Nat} {Q : Value → Shared → Prop} (hv : s.heap.IsValuesView v d) (ho : s.heap.get? d = some od) (hd : od.data = .dict es ep)
    (hQ : Q (.ref s.heap.objs.size) { s with heap := s.heap.push { cls := .type "dict_valueiterator", data := .fields #[.ref d, .int 0 0, .int es.size 0, .int ep 0] } }) :
    wpAny (model prog w) A (pyIter (.ref v)) Q E s := by
  obtain ⟨ov, hov, hcv, hdv⟩ := id hv
  refine wpAny_pyIter_slot hv.typeIs F.slot_dict_values_iter (wpAny_call_entry F.slot_dict_values_iter hv.typeIs F.entry_dict_values_iter ?_ (F.args_dict_values_iter_1 _))
  unfold Builtin.«dict_values.__iter__»
  refine wpAny_bind (wpAny_pure ?_)
  refine wpAny_bind ?_
  unfold Builtin.Dict_items.dictOf
  refine wpAny_bind (wpAny_field hov hdv (x := .ref d) rfl (wpAny_pure ?_))
  refine wpAny_bind ?_
  unfold Builtin.Dict_items.newIterator
  refine wpAny_bind (wpAny_dictEntries ho hd (wpAny_bind (wpAny_dictEpoch ho hd ?_)))
  simp only [show Builtin.Dict_items.ownsTuple "dict_valueiterator" = false by decide, Bool.false_eq_true, if_false]
  refine wpAny_newObj_type (wpAny_pure ⟨_, rfl, "dict_valueiterator", _, ⟨_, Heap.get?_push_size _ rfl, rfl⟩, F.slot_dict_valueiterator_next.lookup, ?_⟩)
  simpa [rawInt] using hQ
theorem nextItems {it d : Addr} {i ep : Nat} {od : Obj} {es : Array DictEntry} {e : DictEntry} {ok ov : Value} {Q : Option Value → Shared → Prop} (hit : IsItemIter s.heap it d i es.size ep ok ov) (hod : s.heap.get? d = some od) (hdd : od.data = .dict es ep) (hx : es[i]? = some e)
    (hQ : ∀ h', IsItemIterOut h' it d (i + 1) es.size ep e.key e.val s.heap.objs.size → h'.get? s.heap.objs.size = some { cls := .type "tuple", data := .seq #[e.key, e.val] } →
      (∀ b o, b ≠ it → s.heap.get? b = some o → h'.get? b = some o) → Q (some (.ref s.heap.objs.size)) { s with heap := h' }) :
    wpAny (model prog w) A (pyNext (.ref it)) Q E s := by
  obtain ⟨hp, g, dr, tk, os⟩ := s
  have hT : Shared.TypeIs ⟨hp, g, dr, tk, os⟩ (.ref it) "dict_itemiterator" := ⟨_, hit, rfl⟩
  unfold pyNext
  refine wpAny_bind (wpAny_attempt (wpAny_callSpecial?_slot (name := Str.ofString "__next__") hT F.slot_dict_itemiterator_next
    (wpAny_call_entry F.slot_dict_itemiterator_next hT F.entry_dict_itemiterator_next ?_ (F.args_dict_itemiterator_next_1 _))))
  refine wpAny_bind (wpAny_pure ?_)
  refine wpAny_bind ?_
  refine wpAny_bind ?_
  first | refine wpAny_bind (wpAny_typeNameOfWhole_itemiter hT (wpAny_pure ?_)) | refine wpAny_bind (wpAny_typeNameOf_itemiter hT (wpAny_pure ?_))
  refine wpAny_bind (wpAny_fieldsOf hit rfl ?_)
  simp only [show Builtin.Dict_items.ownsTuple "dict_itemiterator" = true by decide, if_true]
  show wpAny _ _ (if (Value.ref d == Value.none) = true then _ else _) _ _ _
  rw [if_neg (show ¬ ((Value.ref d == Value.none) = true) from Bool.false_ne_true)]
  refine wpAny_bind (wpAny_pure (wpAny_bind (wpAny_dictEntries hod hdd ?_)))
  rw [if_neg (by simp)]
  refine wpAny_bind (wpAny_pure (wpAny_bind (wpAny_dictEpoch hod hdd ?_)))
  rw [if_neg (by simp)]
  refine wpAny_pure ?_
  simp only [show ¬ ((i : Int) < 0) from by omega, if_false, Int.toNat_natCast, hx]
  refine wpAny_bind ?_
  first | refine wpAny_bind (wpAny_typeNameOfWhole_itemiter hT (wpAny_pure ?_)) | refine wpAny_bind (wpAny_typeNameOf_itemiter hT (wpAny_pure ?_))
  refine wpAny_bind (wpAny_isOneOf_itemiter hT ?_)
  show wpAny _ _ (setField (.ref it) 3 (rawInt ((i : Int) + 1)) >>= _) _ _ ⟨hp, g, dr, tk, os⟩
  refine wpAny_bind (wpAny_setField_rec hit (by simp) fun h₁ he₁ hs₁ => ?_)
  have he₁ : IsItemIter h₁ it d (i + 1) es.size ep ok ov := by
    have e : ((i + 1 : Nat) : Int) = (i : Int) + 1 := by omega
    unfold IsItemIter; rw [e]; simpa [rawInt] using he₁
  have hT₁ : Shared.TypeIs ⟨h₁, g, dr, tk, os⟩ (.ref it) "dict_itemiterator" := ⟨_, he₁, rfl⟩
  have hz₁ : h₁.objs.size = hp.objs.size := hs₁.1
  have k₁ : ∀ b o, b ≠ it → hp.get? b = some o → h₁.get? b = some o := fun b o hb q => Heap.SameBut.extBut (h := hp) hs₁ b o hb q
  refine wpAny_bind (wpAny_holding (wpAny_bind (s := ⟨h₁, g, dr, tk, os⟩) (wpAny_isOneOf_itemiter hT₁ (wpAny_bind (wpAny_isOneOf_itemiter hT₁ ?_)))))
  show wpAny _ _ (Builtin.Dict_items.pairFromOwner (.ref it) 6 e.key e.val) _ _ ⟨h₁, g, dr, tk, os⟩
  unfold Builtin.Dict_items.pairFromOwner
  refine wpAny_bind (wpAny_newTuple ?_)
  have he₂ : IsItemIter (h₁.push { cls := .type "tuple", data := .seq #[e.key, e.val] }) it d (i + 1) es.size ep ok ov := Heap.get?_push_of_some _ he₁
  have ht₂ : (h₁.push { cls := .type "tuple", data := .seq #[e.key, e.val] }).get? hp.objs.size = some { cls := .type "tuple", data := .seq #[e.key, e.val] } := by rw [← hz₁]; exact Heap.get?_push_size _ rfl
  have k₂ : ∀ b o, b ≠ it → hp.get? b = some o → (h₁.push { cls := .type "tuple", data := .seq #[e.key, e.val] }).get? b = some o := fun b o hb q => Heap.get?_push_of_some _ (k₁ b o hb q)
  generalize h₁.push { cls := .type "tuple", data := .seq #[e.key, e.val] } = h₂ at he₂ ht₂ k₂
  show wpAny _ _ (Builtin.Dict_items.ownedTupleIsFree (.ref it) >>= _) _ _ ⟨h₂, g, dr, tk, os⟩
  rw [hz₁]
  have hne : hp.objs.size ≠ it := Nat.ne_of_gt (Heap.lt_size hit)
  refine wpAny_bind ?_
  unfold Builtin.Dict_items.ownedTupleIsFree
  refine wpAny_bind (wpAny_field he₂ rfl (x := .none) rfl (wpAny_pure ?_))
  simp only [if_true]
  refine wpAny_bind (wpAny_field he₂ rfl (x := ok) rfl (wpAny_bind (wpAny_field he₂ rfl (x := ov) rfl ?_)))
  refine wpAny_bind (wpAny_setField_rec he₂ (by simp) fun h₃ he₃ hs₃ => ?_)
  refine wpAny_bind (wpAny_setField_rec (show IsItemIter h₃ it d (i + 1) es.size ep e.key ov from he₃) (by simp) fun h₄ he₄ hs₄ => ?_)
  refine wpAny_bind (wpAny_setField_rec (show IsItemIter h₄ it d (i + 1) es.size ep e.key e.val from he₄) (by simp) fun h₅ he₅ hs₅ => ?_)
  refine wpAny_bind (wpAny_setField_rec (show IsItemIterOut h₅ it d (i + 1) es.size ep e.key e.val hp.objs.size from he₅) (by simp) fun h₆ he₆ hs₆ => ?_)
  have k₆ : ∀ b o, b ≠ it → h₂.get? b = some o → h₆.get? b = some o := fun b o hb q => Heap.SameBut.extBut (h := h₅) hs₆ b o hb (Heap.SameBut.extBut (h := h₄) hs₅ b o hb (Heap.SameBut.extBut (h := h₃) hs₄ b o hb (Heap.SameBut.extBut (h := h₂) hs₃ b o hb q)))
  exact wpAny_bind (wpAny_letGo (wpAny_pure (wpAny_pure ⟨_, rfl, wpAny_pure (hQ h₆ he₆ (k₆ _ _ hne ht₂) fun b o hb q => k₆ b o hb (k₂ b o hb q))⟩)))
end
end Mine

set_option maxRecDepth 100000
namespace Mine
open PySem PySem.W PyProof.Rows PySem.Calls PySem.SeqAt

section
variable {prog : Program} {w : World} {A : Around} {E : Value → Shared → Prop} {s : Shared}
theorem nextItemsEnd {it d : Addr} {i ep : Nat} {od : Obj} {es : Array DictEntry} {ok ov : Value} {Q : Option Value → Shared → Prop} (hh : A.handled = none) (hit : IsItemIter s.heap it d i es.size ep ok ov) (hod : s.heap.get? d = some od) (hdd : od.data = .dict es ep) (hx : es[i]? = none)
    (hQ : ∀ h', Heap.ExtBut it s.heap h' → Q none { s with heap := h' }) : wpAny (model prog w) A (pyNext (.ref it)) Q E s := by
  have hT : s.TypeIs (.ref it) "dict_itemiterator" := ⟨_, hit, rfl⟩
  unfold pyNext
  refine wpAny_bind (wpAny_attempt (wpAny_callSpecial?_slot (name := Str.ofString "__next__") hT F.slot_dict_itemiterator_next
    (wpAny_call_entry F.slot_dict_itemiterator_next hT F.entry_dict_itemiterator_next ?_ (F.args_dict_itemiterator_next_1 _))))
  refine wpAny_bind (wpAny_pure ?_)
  refine wpAny_bind ?_
  refine wpAny_bind ?_
  first | refine wpAny_bind (wpAny_typeNameOfWhole_itemiter hT (wpAny_pure ?_)) | refine wpAny_bind (wpAny_typeNameOf_itemiter hT (wpAny_pure ?_))
  refine wpAny_bind (wpAny_fieldsOf hit rfl ?_)
  simp only [show Builtin.Dict_items.ownsTuple "dict_itemiterator" = true by decide, if_true]
  show wpAny _ _ (if (Value.ref d == Value.none) = true then _ else _) _ _ s
  rw [if_neg (show ¬ ((Value.ref d == Value.none) = true) from Bool.false_ne_true)]
  refine wpAny_bind (wpAny_pure (wpAny_bind (wpAny_dictEntries hod hdd ?_)))
  rw [if_neg (by simp)]
  refine wpAny_bind (wpAny_pure (wpAny_bind (wpAny_dictEpoch hod hdd ?_)))
  rw [if_neg (by simp)]
  refine wpAny_pure ?_
  simp only [show ¬ ((i : Int) < 0) from by omega, if_false, Int.toNat_natCast, hx]
  refine wpAny_bind ?_
  first | refine wpAny_bind (wpAny_typeNameOfWhole_itemiter hT (wpAny_pure ?_)) | refine wpAny_bind (wpAny_typeNameOf_itemiter hT (wpAny_pure ?_))
  show wpAny _ _ (setField (.ref it) 2 .none >>= _) _ _ s
  refine wpAny_bind (wpAny_setField hit rfl (by simp) ?_)
  show wpAny _ _ (newExc (.type "StopIteration") [] >>= _) _ _ _
  refine wpAny_bind ?_
  simp only [newExc, newTuple]
  refine wpAny_bind (wpAny_newObj_type ?_ (by size_fits))
  refine wpAny_bind (m := firstArgMember _ _) (wpAny_of_eq (a := Value.none) (by first | rfl | (simp only [firstArgMember]; rfl)) ?_)
  refine wpAny_newObj_type ?_ (by size_fits)
  simp only [raiseNew]
  refine wpAny_bind (wpAny_handled ?_)
  rw [show A.in1.handled = none from hh]
  refine wpAny_bind (wpAny_pure (wpAny_throw ?_))
  refine wpAny_bind (wpAny_isInstance (T := "StopIteration") (b := true) ⟨_, Heap.get?_push_size _ rfl, rfl⟩ isSubtype_stop ?_)
  exact wpAny_pure (hQ _ (((Heap.SameBut.update ..).extBut.push _).push _))
theorem nextValues {it d : Addr} {i ep : Nat} {od : Obj} {es : Array DictEntry} {e : DictEntry} {Q : Option Value → Shared → Prop} (hit : s.heap.IsValIter it d i es.size ep) (hod : s.heap.get? d = some od) (hdd : od.data = .dict es ep) (hx : es[i]? = some e)
    (hQ : ∀ h', h'.IsValIter it d (i + 1) es.size ep → Heap.SameBut it s.heap h' → Q (some e.val) { s with heap := h' }) : wpAny (model prog w) A (pyNext (.ref it)) Q E s := by
  obtain ⟨o, ho, hc, hd⟩ := id hit
  have hT := hit.typeIs
  unfold pyNext
  refine wpAny_bind (wpAny_attempt (wpAny_callSpecial?_slot (name := Str.ofString "__next__") hT F.slot_dict_valueiterator_next
    (wpAny_call_entry F.slot_dict_valueiterator_next hT F.entry_dict_valueiterator_next ?_ (F.args_dict_valueiterator_next_1 _))))
  refine wpAny_bind (wpAny_pure ?_)
  refine wpAny_bind ?_
  refine wpAny_bind ?_
  first | refine wpAny_bind (wpAny_typeNameOfWhole_valiter hT (wpAny_pure ?_)) | refine wpAny_bind (wpAny_typeNameOf_valiter hT (wpAny_pure ?_))
  refine wpAny_bind (wpAny_fieldsOf ho hd ?_)
  simp only [show Builtin.Dict_items.ownsTuple "dict_valueiterator" = false by decide, Bool.false_eq_true, if_false]
  show wpAny _ _ (if (Value.ref d == Value.none) = true then _ else _) _ _ s
  rw [if_neg (show ¬ ((Value.ref d == Value.none) = true) from Bool.false_ne_true)]
  refine wpAny_bind (wpAny_pure (wpAny_bind (wpAny_dictEntries hod hdd ?_)))
  rw [if_neg (by simp)]
  refine wpAny_bind (wpAny_pure (wpAny_bind (wpAny_dictEpoch hod hdd ?_)))
  rw [if_neg (by simp)]
  refine wpAny_pure ?_
  simp only [show ¬ ((i : Int) < 0) from by omega, if_false, Int.toNat_natCast, hx]
  refine wpAny_bind ?_
  first | refine wpAny_bind (wpAny_typeNameOfWhole_valiter hT (wpAny_pure ?_)) | refine wpAny_bind (wpAny_typeNameOf_valiter hT (wpAny_pure ?_))
  refine wpAny_bind (wpAny_isOneOf_valiter hT ?_)
  show wpAny _ _ (setField (.ref it) 1 (rawInt ((i : Int) + 1)) >>= _) _ _ s
  refine wpAny_bind (wpAny_setField ho hd (by simp) ?_)
  have hit' : (s.heap.update it (Obj.mapFields (·.setIfInBounds 1 (rawInt ((i : Int) + 1))))).IsValIter it d (i + 1) es.size ep :=
    ⟨_, Heap.get?_update_self _ ho (Obj.isFreed_of_fields (Obj.data_mapFields hd _)), (Obj.cls_mapFields ..).trans hc, by rw [Obj.data_mapFields hd]; simp [rawInt]⟩
  have hT' : Shared.TypeIs { s with heap := s.heap.update it (Obj.mapFields (·.setIfInBounds 1 (rawInt ((i : Int) + 1)))) } (.ref it) "dict_valueiterator" := hit'.typeIs
  refine wpAny_bind (wpAny_holding (wpAny_bind (wpAny_isOneOf_valiter hT' (wpAny_bind (wpAny_isOneOf_valiter hT' ?_)))))
  show wpAny _ _ (pure e.val) _ _ _
  exact wpAny_pure (wpAny_pure ⟨_, rfl, wpAny_pure (hQ _ hit' (Heap.SameBut.update ..))⟩)
theorem nextValuesEnd {it d : Addr} {i ep : Nat} {od : Obj} {es : Array DictEntry} {Q : Option Value → Shared → Prop} (hh : A.handled = none) (hit : s.heap.IsValIter it d i es.size ep) (hod : s.heap.get? d = some od) (hdd : od.data = .dict es ep) (hx : es[i]? = none)
    (hQ : ∀ h', Heap.ExtBut it s.heap h' → Q none { s with heap := h' }) : wpAny (model prog w) A (pyNext (.ref it)) Q E s := by
  obtain ⟨o, ho, hc, hd⟩ := id hit
  have hT := hit.typeIs
  unfold pyNext
  refine wpAny_bind (wpAny_attempt (wpAny_callSpecial?_slot (name := Str.ofString "__next__") hT F.slot_dict_valueiterator_next
    (wpAny_call_entry F.slot_dict_valueiterator_next hT F.entry_dict_valueiterator_next ?_ (F.args_dict_valueiterator_next_1 _))))
  refine wpAny_bind (wpAny_pure ?_)
  refine wpAny_bind ?_
  refine wpAny_bind ?_
  first | refine wpAny_bind (wpAny_typeNameOfWhole_valiter hT (wpAny_pure ?_)) | refine wpAny_bind (wpAny_typeNameOf_valiter hT (wpAny_pure ?_))
  refine wpAny_bind (wpAny_fieldsOf ho hd ?_)
  simp only [show Builtin.Dict_items.ownsTuple "dict_valueiterator" = false by decide, Bool.false_eq_true, if_false]
  show wpAny _ _ (if (Value.ref d == Value.none) = true then _ else _) _ _ s
  rw [if_neg (show ¬ ((Value.ref d == Value.none) = true) from Bool.false_ne_true)]
  refine wpAny_bind (wpAny_pure (wpAny_bind (wpAny_dictEntries hod hdd ?_)))
  rw [if_neg (by simp)]
  refine wpAny_bind (wpAny_pure (wpAny_bind (wpAny_dictEpoch hod hdd ?_)))
  rw [if_neg (by simp)]
  refine wpAny_pure ?_
  simp only [show ¬ ((i : Int) < 0) from by omega, if_false, Int.toNat_natCast, hx]
  refine wpAny_bind ?_
  first | refine wpAny_bind (wpAny_typeNameOfWhole_valiter hT (wpAny_pure ?_)) | refine wpAny_bind (wpAny_typeNameOf_valiter hT (wpAny_pure ?_))
  show wpAny _ _ (setField (.ref it) 0 .none >>= _) _ _ s
  refine wpAny_bind (wpAny_setField ho hd (by simp) ?_)
  show wpAny _ _ (newExc (.type "StopIteration") [] >>= _) _ _ _
  refine wpAny_bind ?_
  simp only [newExc, newTuple]
  refine wpAny_bind (wpAny_newObj_type ?_ (by size_fits))
  refine wpAny_bind (m := firstArgMember _ _) (wpAny_of_eq (a := Value.none) (by first | rfl | (simp only [firstArgMember]; rfl)) ?_)
  refine wpAny_newObj_type ?_ (by size_fits)
  simp only [raiseNew]
  refine wpAny_bind (wpAny_handled ?_)
  rw [show A.in1.handled = none from hh]
  refine wpAny_bind (wpAny_pure (wpAny_throw ?_))
  refine wpAny_bind (wpAny_isInstance (T := "StopIteration") (b := true) ⟨_, Heap.get?_push_size _ rfl, rfl⟩ isSubtype_stop ?_)
  exact wpAny_pure (hQ _ (((Heap.SameBut.update ..).extBut.push _).push _))
end

variable {Z : Base}
section
variable {cx : Cx}
theorem Inv.notFields {prog : Program} {w : World} {h₀ : Heap} {env : Env} {c f : Sl} {σ : Sto} {α : List Addr} {h : Heap} {b : Addr} {o : Obj} {vs : Array Value} (I : Inv prog w h₀ cx env c f σ α h) (e : h.get? b = some o) (hd : o.data = .fields vs) : ¬ Own cx env α b ∧ (∀ x, CellAt cx env x → x ≠ b) := by
  refine ⟨?_, I.notCell e fun v q => by rw [hd] at q; cases q⟩
  rintro (rfl | ⟨_, x, p, hp, hk, hb⟩ | hb)
  · obtain ⟨m, ⟨o', es, ep, e', hd', _⟩, _⟩ := I.fr.ns
    rw [e] at e'; cases e'
    rw [hd] at hd'; cases hd'
  · obtain ⟨a, v, ha, ⟨o', e', hd'⟩, _⟩ := I.fr.cl x p hp hk
    rw [hb] at ha; cases ha
    rw [e] at e'; cases e'
    rw [hd] at hd'; cases hd'
  · obtain ⟨n, hn, rfl⟩ := List.mem_iff_getElem.mp hb
    have hn' : n < σ.length := I.sto.len ▸ hn
    have := I.sto.obj n _ _ (List.getElem?_eq_getElem hn) (List.getElem?_eq_getElem hn')
    cases q : σ[n] with
    | list d =>
      rw [q] at this
      obtain ⟨_, ⟨_, e'⟩, _⟩ := this
      rw [e] at e'; cases e'
      cases hd
    | dict es =>
      rw [q] at this
      obtain ⟨_, _, _, ⟨_, _, e', _, hd', _⟩, _⟩ := this
      rw [e] at e'; cases e'
      rw [hd] at hd'; cases hd'
theorem lenE_eq : ∀ es : List (Nat × Nat), lenE es = es.length
  | [] => rfl
  | _ :: r => by show Nat.add (lenE r) 1 = _; rw [lenE_eq r]; rfl
theorem nthE_iff {k : Nat → Nat → Bool} {ke : Bool} : ∀ {es : List (Nat × Nat)} {i : Nat}, nthE es i k ke = true → (es[i]? = none ∧ ke = true) ∨ ∃ e, es[i]? = some e ∧ k e.1 e.2 = true
  | [], i, h => .inl ⟨by simp, h⟩
  | e :: es, 0, h => .inr ⟨e, rfl, h⟩
  | e :: es, i + 1, h => by simpa using nthE_iff (es := es) (i := i) h
/-- an iterator's state -/
def ItOk (cx : Cx) (env : Env) (D : Addr) (α : List Addr) (h : Heap) (I : Addr) : It → Prop
  | .list n i => ∃ a, α[n]? = some a ∧ h.IsListIter I a i
  | .ch d => ∃ (T : Addr) (vs : List Value) (i : Nat), VI α h (vs.drop i) d ∧ ((h.IsTupleIter I T i ∧ h.IsTuple T vs.toArray) ∨ (h.IsListIter I T i ∧ IsL h T vs.toArray ∧ ¬ Own cx env α T ∧ T ≠ D))
  | .rng x n => IsRangeIter h I (x : Int) (n : Int) 1
  | .ditems n i z => ∃ d ok ov, α[n]? = some d ∧ IsItemIter h I d i z z ok ov
  | .dvals n i z => ∃ d, α[n]? = some d ∧ h.IsValIter I d i z z
theorem ItOk.fields {env : Env} {D : Addr} {α : List Addr} {h : Heap} {I : Addr} {it : It} (x : ItOk cx env D α h I it) : ∃ o vs, h.get? I = some o ∧ o.data = .fields vs ∧ ¬ Imm o := by
  have fin : ∀ o vs, h.get? I = some o → o.data = .fields vs → (o.cls ≠ .type "range" ∧ o.cls ≠ .type "dict_items" ∧ o.cls ≠ .type "dict_values") → ∃ o vs, h.get? I = some o ∧ o.data = .fields vs ∧ ¬ Imm o := by
    intro o vs ho hd ⟨c1, c2, c3⟩
    refine ⟨o, vs, ho, hd, ?_⟩
    rintro (⟨_, _, q, _⟩ | ⟨_, _, q | q | q⟩)
    · rw [hd] at q; cases q
    · exact c1 q
    · exact c2 q
    · exact c3 q
  have ne : ∀ {a b : String}, a ≠ b → Value.type a ≠ Value.type b := fun h q => h (Value.type.inj q)
  cases it with
  | list n i =>
    obtain ⟨a, _, o, ho, hc, hd⟩ := x
    exact fin o _ ho hd (by rw [hc]; exact ⟨ne (by decide), ne (by decide), ne (by decide)⟩)
  | ch d =>
    obtain ⟨T, vs, i, _, ⟨⟨o, ho, hc, hd⟩, _⟩ | ⟨⟨o, ho, hc, hd⟩, _⟩⟩ := x
    · exact fin o _ ho hd (by rw [hc]; exact ⟨ne (by decide), ne (by decide), ne (by decide)⟩)
    · exact fin o _ ho hd (by rw [hc]; exact ⟨ne (by decide), ne (by decide), ne (by decide)⟩)
  | rng a n => exact fin _ _ x rfl ⟨ne (by decide), ne (by decide), ne (by decide)⟩
  | ditems n i z =>
    obtain ⟨d, ok, ov, _, ho⟩ := x
    exact fin _ _ ho rfl ⟨ne (by decide), ne (by decide), ne (by decide)⟩
  | dvals n i z =>
    obtain ⟨d, _, o, ho, hc, hd⟩ := x
    exact fin o _ ho hd (by rw [hc]; exact ⟨ne (by decide), ne (by decide), ne (by decide)⟩)
theorem ItOk.keep {env : Env} {D : Addr} {α α' : List Addr} {h h' : Heap} {I : Addr} {it : It} (x : ItOk cx env D α h I it) (E : Ext cx env α h α' h') (no : ¬ Own cx env α I) : ItOk cx env D α' h' I it := by
  cases it with
  | list n i =>
    obtain ⟨a, ha, o, ho, r⟩ := x
    exact ⟨a, E.at ha, o, E.keep _ _ ho no, r⟩
  | ch d =>
    obtain ⟨T, vs, i, r, ⟨⟨o, ho, q⟩, ht⟩ | ⟨⟨o, ho, q⟩, hl, nT, nD⟩⟩ := x
    · exact ⟨T, vs, i, E.VI r, .inl ⟨⟨o, E.keep _ _ ho no, q⟩, isTuple_imm E.imm ht⟩⟩
    · obtain ⟨k, hk⟩ := hl
      exact ⟨T, vs, i, E.VI r, .inr ⟨⟨o, E.keep _ _ ho no, q⟩, ⟨k, E.keep _ _ hk nT⟩, E.notOwn hk nT, nD⟩⟩
  | rng a n => exact E.keep _ _ x no
  | ditems n i z =>
    obtain ⟨d, ok, ov, hd, ho⟩ := x
    exact ⟨d, ok, ov, E.at hd, E.keep _ _ ho no⟩
  | dvals n i z =>
    obtain ⟨d, hd, o, ho, r⟩ := x
    exact ⟨d, E.at hd, o, E.keep _ _ ho no, r⟩
end
end Mine

set_option maxRecDepth 100000
namespace Mine
open PySem PySem.W PyProof.Rows PySem.Calls PySem.SeqAt

variable {Z : Base}
section
variable {cx : Cx}
theorem nthC_two {α : List Addr} {h : Heap} {ke : Bool} : ∀ {d : DV} {n : Nat} {vs : List Value} {k : DV → Bool}, VI α h vs d → nthC d n k ke = true → (vs[n]? = none ∧ ke = true) ∨ ∃ x v, vs[n]? = some v ∧ V α h v x ∧ k x = true := by
  intro d
  induction d with
  | nil => intro n vs k e q; cases e; exact .inl ⟨by simp, q⟩
  | cons x y _ ih =>
    rintro n vs k ⟨u, us, rfl, h1, h2⟩ q
    cases n with
    | zero => exact .inr ⟨x, u, rfl, h1, q⟩
    | succ n =>
      rcases ih (n := n) h2 q with ⟨e, q⟩ | ⟨z, v, e, r, q'⟩
      · exact .inl ⟨by simpa using e, q⟩
      · exact .inr ⟨z, v, by simpa using e, r, q'⟩
  | _ => intro n vs k e; exact e.elim
theorem letGo_rangeiter {A : Around} {E : Value → Shared → Prop} {target : PySem.Expr} {I : Addr} {n : Int} {t : Tok} {Q' : Unit → Shared → Prop} {s' : Shared} (h : Q' () s') : wpAny (model Z.prog Z.w) A (letOwnedTupleGo target (.ref I) (.int n t)) Q' E s' := by
  unfold letOwnedTupleGo
  cases target <;> exact wpAny_pure h
theorem itTurn {env : Env} {D : Addr} {c f : Sl} {σ : Sto} {α : List Addr} {h h' : Heap} {Ia : Addr} {it : It} (I : IN Z cx env c f σ α h) (ok : ItOk cx env D α h Ia it) (hn : Z.h₀.get? Ia = none) (k : ∀ b o, b ≠ Ia → h.get? b = some o → h'.get? b = some o) : IN Z cx env c f σ α h' ∧ ImmK h h' := by
  obtain ⟨o, vs, ho, hd, ni⟩ := ok.fields
  obtain ⟨n1, n2⟩ := I.notFields ho hd
  refine ⟨I.turn k hn n1 n2 fun o' e => by rw [ho] at e; cases e; exact ni, fun b o' e i => k b o' (fun q => ?_) e⟩
  subst q
  rw [ho] at e; cases e
  exact ni i
theorem nextGo {A : Around} {env : Env} {D : Addr} {c f : Sl} {σ : Sto} {α : List Addr} {s : Shared} {Ia : Addr} {it : It} {ke : Bool} {k : DV → It → Bool} {tgt : PySem.Expr} {E : Value → Shared → Prop}
    (I : IN Z cx env c f σ α s.heap) (ok : ItOk cx env D α s.heap Ia it) (hh : A.handled = none) (hn : Z.h₀.get? Ia = none) (hk : nextK it σ ke k = true) (htup : (∃ n i z, it = .ditems n i z) → isTupE tgt = true) (Q : Option Value → Shared → Prop)
    (hN : ke = true → ∀ h', (∀ b o, b ≠ Ia → s.heap.get? b = some o → h'.get? b = some o) → IN Z cx env c f σ α h' → Q none { s with heap := h' })
    (hS : ∀ d it' v h₁ tk₁, k d it' = true → ((∃ n i z, it' = .ditems n i z) → ∃ n i z, it = .ditems n i z) → (∀ (Q' : Unit → Shared → Prop), (∀ h₂, (∀ b o, b ≠ Ia → s.heap.get? b = some o → h₂.get? b = some o) → IN Z cx env c f σ α h₂ → ItOk cx env D α h₂ Ia it' → V α h₂ v d → Q' () { s with heap := h₂, toks := tk₁ }) →
      wpAny (model Z.prog Z.w) A (letOwnedTupleGo tgt (.ref Ia) v) Q' E { s with heap := h₁, toks := tk₁ }) → Q (some v) { s with heap := h₁, toks := tk₁ }) :
    wpAny (model Z.prog Z.w) A (pyNext (.ref Ia)) Q E s := by
  cases it with
  | list n i =>
    obtain ⟨ob, e, q⟩ := nthO_iff hk
    obtain ⟨l, rfl, q⟩ := obL_iff q
    obtain ⟨a, ha, hit⟩ := id ok
    obtain ⟨vs, L, Vl, gl⟩ := I.sto.obj n a _ ha e
    rcases nthC_two Vl q with ⟨ex, q⟩ | ⟨x, v, ex, r, q⟩
    · refine wpAny_pyNext_list_end hh hit L.isList (by simpa using ex) fun h' hx => hN q h' (fun b o hb e => hx b o hb e) (itTurn I ok hn fun b o hb e => hx b o hb e).1
    · rw [frcN_eq] at q
      refine wpAny_pyNext_list_item hit L.isList (x := v) (by simpa using ex) fun h' hit' hs => ?_
      obtain ⟨I', im⟩ := itTurn I ok hn fun b o hb e => hs.extBut b o hb e
      exact hS _ _ v h' s.toks q (fun ⟨_, _, _, q⟩ => by cases q) fun Q' hQ' => letGo_listiter (s' := { s with heap := h' }) hit' (hQ' h' (fun b o hb e => hs.extBut b o hb e) I' ⟨a, ha, hit'⟩ (r.imm im).lift)
  | ch d =>
    obtain ⟨T, vs, i, r, hor⟩ := id ok
    rcases asCh_iff (show asCh d ke (fun h t => k h (.ch t)) = true from hk) with ⟨rfl, q⟩ | ⟨x, y, rfl, q⟩
    · have ex : vs[i]? = none := by
        have : vs.drop i = [] := r
        simpa using this
      rcases hor with ⟨hit, ht⟩ | ⟨hit, L, nT, nD⟩
      · exact wpAny_pyNext_tuple_end hh hit ht (by simpa using ex) fun h' hx => hN q h' (fun b o hb e => hx b o hb e) (itTurn I ok hn fun b o hb e => hx b o hb e).1
      · exact wpAny_pyNext_list_end hh hit L.isList (by simpa using ex) fun h' hx => hN q h' (fun b o hb e => hx b o hb e) (itTurn I ok hn fun b o hb e => hx b o hb e).1
    · obtain ⟨u, us, eu, r1, r2⟩ := r
      have ex : vs[i]? = some u := by
        have := List.getElem?_drop (xs := vs) (i := i) (j := 0)
        rw [eu] at this
        simpa using this.symm
      have ed : vs.drop (i + 1) = us := by
        have := List.drop_drop (i := 1) (j := i) (l := vs)
        rw [eu] at this
        rw [show i + 1 = 1 + i by omega] at *
        first
          | exact this.symm
          | (rw [show i + 1 = 1 + i by omega]; exact this.symm)
      rcases hor with ⟨hit, ht⟩ | ⟨hit, L, nT, nD⟩
      · refine wpAny_pyNext_tuple_item hit ht (x := u) (by simpa using ex) fun h' hit' hs => ?_
        obtain ⟨I', im⟩ := itTurn I ok hn fun b o hb e => hs.extBut b o hb e
        exact hS x (.ch y) u h' s.toks q (fun ⟨_, _, _, q⟩ => by cases q) fun Q' hQ' => letGo_tupleiter (s' := { s with heap := h' }) hit' (hQ' h' (fun b o hb e => hs.extBut b o hb e) I' ⟨T, vs, i + 1, by rw [ed]; exact VI.imm r2 im, .inl ⟨hit', isTuple_imm im ht⟩⟩ (V.imm r1 im))
      · refine wpAny_pyNext_list_item hit L.isList (x := u) (by simpa using ex) fun h' hit' hs => ?_
        obtain ⟨I', im⟩ := itTurn I ok hn fun b o hb e => hs.extBut b o hb e
        have hne : T ≠ Ia := by
          rintro rfl
          obtain ⟨o, ho, _, hd⟩ := hit
          obtain ⟨nn, hL⟩ := L
          rw [ho] at hL; cases hL
          cases hd
        obtain ⟨nn, hL⟩ := L
        exact hS x (.ch y) u h' s.toks q (fun ⟨_, _, _, q⟩ => by cases q) fun Q' hQ' => letGo_listiter (s' := { s with heap := h' }) hit' (hQ' h' (fun b o hb e => hs.extBut b o hb e) I' ⟨T, vs, i + 1, by rw [ed]; exact VI.imm r2 im, .inr ⟨hit', ⟨nn, hs.extBut T _ hne hL⟩, nT, nD⟩⟩ (V.imm r1 im))
  | rng x n =>
    cases n with
    | zero => exact wpAny_pyNext_range_end hh ok (Int.le_refl _) fun h' hx => hN hk h' (fun b o hb e => hx b o hb e) (itTurn I ok hn fun b o hb e => hx b o hb e).1
    | succ n =>
      have q : frcN (Nat.add x 1) (fun y => k (.int x) (.rng y n)) = true := hk
      rw [frcN_eq] at q
      refine wpAny_pyNext_range_item ok (by omega) fun h' hit' hs => ?_
      obtain ⟨I', im⟩ := itTurn I ok hn fun b o hb e => hs.extBut b o hb e
      refine hS _ _ _ h' (s.toks + 1) q (fun ⟨_, _, _, q⟩ => by cases q) fun Q' hQ' => letGo_rangeiter (hQ' h' (fun b o hb e => hs.extBut b o hb e) I' ?_ ⟨_, rfl⟩)
      have e1 : ((Nat.add x 1 : Nat) : Int) = (x : Int) + 1 := by show ((x + 1 : Nat) : Int) = _; omega
      have e2 : ((n : Nat) : Int) = ((n + 1 : Nat) : Int) - 1 := by omega
      show IsRangeIter h' Ia _ _ 1
      rw [e1, e2]
      exact hit'
  | ditems n i z =>
    obtain ⟨ob, e, q⟩ := nthO_iff hk
    obtain ⟨es, rfl, q⟩ := obD_iff q
    rcases ifB_iff q with ⟨ez, q⟩ | ⟨_, q⟩
    case inr => cases q
    have ez := Nat.eq_of_beq_eq_true ez
    rw [lenE_eq] at ez
    obtain ⟨d, okk, ov, hd, hit⟩ := id ok
    obtain ⟨_, _, xs, ⟨od, de, hod, hcd, hdd, hes, his, hnd⟩, Dr⟩ := I.sto.obj n d _ hd e
    have hz : de.size = z := by rw [size_of_entries hes, Dr.length, ez]
    have hzx : xs.length = z := by rw [Dr.length, ez]
    rw [← hz] at hit
    rw [hzx, ← hz] at hdd
    have hent := entry_at hes i
    have htt := htup ⟨n, i, z, rfl⟩
    rcases Dr.get (i := i) with ⟨e1, e2⟩ | ⟨ee, x, e1, e2, h1, ⟨t, h2⟩⟩
    · rw [e2] at hent
      rcases nthE_iff q with ⟨_, q⟩ | ⟨_, e3, _⟩
      · exact nextItemsEnd hh hit hod hdd hent fun h' hx => hN q h' (fun b o hb e => hx b o hb e) (itTurn I ok hn fun b o hb e => hx b o hb e).1
      · rw [e1] at e3; cases e3
    · rw [e2] at hent
      rcases nthE_iff q with ⟨e3, _⟩ | ⟨ee', e3, q⟩
      · rw [e1] at e3; cases e3
      rw [e1] at e3; cases e3
      rw [frcN_eq] at q
      refine nextItems hit hod hdd hent fun h' ho ht hk' => ?_
      obtain ⟨I', im⟩ := itTurn I ok hn hk'
      have kx : (dk Z.prog Z.w).is h' (keyL ee.1) x.2.1 := by
        have := his x (List.mem_of_getElem? e2)
        rw [h1] at this
        exact tupleKey_imm im this
      have vv : V α h' (.ref s.heap.objs.size) (.cons (keyD ee.1) (.cons (.int ee.2) .nil)) :=
        ⟨_, _, _, rfl, ⟨_, ht, rfl, 0, rfl⟩, V.ofKey kx, _, [], rfl, ⟨t, h2⟩, rfl⟩
      refine hS _ _ _ h' s.toks q (fun _ => ⟨n, i, z, rfl⟩) fun Q' hQ' => ?_
      cases tgt with
      | Tuple elts kk pos =>
        refine wpAny_letOwnedTupleGo_items ho fun h₂ he₂ hs₂ => ?_
        have ho' : ItOk cx env D α h' Ia (.ditems n (i + 1) z) ∨ True := .inr trivial
        have k₂ : ∀ b o, b ≠ Ia → s.heap.get? b = some o → h₂.get? b = some o := fun b o hb e => Heap.SameBut.extBut (h := h') hs₂ b o hb (hk' b o hb e)
        obtain ⟨I₂, im₂⟩ := itTurn I ok hn k₂
        have hI : Ia ≠ s.heap.objs.size := Nat.ne_of_lt (Heap.lt_size hit)
        have imv : ImmK h' h₂ := fun b o e im => by
          by_cases hb : b = Ia
          · subst hb
            rw [ho] at e; cases e
            rcases im with ⟨_, _, q, _⟩ | ⟨_, _, q | q | q⟩
            · cases q
            all_goals exact absurd (Value.type.inj q) (by decide)
          · exact Heap.SameBut.extBut (h := h') hs₂ b o hb e
        exact hQ' h₂ k₂ I₂ ⟨d, _, _, hd, by rw [hz] at he₂; exact he₂⟩ (vv.imm imv)
      | _ => exact absurd htt (by simp [isTupE])
  | dvals n i z =>
    obtain ⟨ob, e, q⟩ := nthO_iff hk
    obtain ⟨es, rfl, q⟩ := obD_iff q
    rcases ifB_iff q with ⟨ez, q⟩ | ⟨_, q⟩
    case inr => cases q
    have ez := Nat.eq_of_beq_eq_true ez
    rw [lenE_eq] at ez
    obtain ⟨d, hd, hit⟩ := id ok
    obtain ⟨_, _, xs, ⟨od, de, hod, hcd, hdd, hes, his, hnd⟩, Dr⟩ := I.sto.obj n d _ hd e
    have hz : de.size = z := by rw [size_of_entries hes, Dr.length, ez]
    have hzx : xs.length = z := by rw [Dr.length, ez]
    rw [← hz] at hit
    rw [hzx, ← hz] at hdd
    have hent := entry_at hes i
    rcases Dr.get (i := i) with ⟨e1, e2⟩ | ⟨ee, x, e1, e2, h1, ⟨t, h2⟩⟩
    · rw [e2] at hent
      rcases nthE_iff q with ⟨_, q⟩ | ⟨_, e3, _⟩
      · exact nextValuesEnd hh hit hod hdd hent fun h' hx => hN q h' (fun b o hb e => hx b o hb e) (itTurn I ok hn fun b o hb e => hx b o hb e).1
      · rw [e1] at e3; cases e3
    · rw [e2] at hent
      rcases nthE_iff q with ⟨e3, _⟩ | ⟨ee', e3, q⟩
      · rw [e1] at e3; cases e3
      rw [e1] at e3; cases e3
      rw [frcN_eq] at q
      refine nextValues hit hod hdd hent fun h' hit' hs => ?_
      obtain ⟨I', im⟩ := itTurn I ok hn fun b o hb e => hs.extBut b o hb e
      have hval : (entryOfKey (dk Z.prog Z.w) x).val = .int (ee.2 : Int) t := h2
      rw [hval]
      exact hS _ _ _ h' s.toks q (fun ⟨_, _, _, q⟩ => by cases q) fun Q' hQ' => letGo_rangeiter (hQ' h' (fun b o hb e => hs.extBut b o hb e) I' ⟨d, hd, by rw [hz] at hit'; exact hit'⟩ ⟨t, rfl⟩)
theorem rangeSize_eq (a n : Nat) : Builtin.Range.rangeSize (a : Int) ((a : Int) + (n : Int)) 1 = (n : Int) := by
  unfold Builtin.Range.rangeSize
  have h1 : (1 : Int) > 0 := by decide
  first
    | (simp only [h1, if_true]; omega)
    | (simp; omega)
theorem rangeSmall {a n : Nat} (ha : a ≤ 1000) (hn : n ≤ 1000) : Builtin.Range.small (a : Int) ((a : Int) + (n : Int)) 1 = true := by
  unfold Builtin.Range.small
  rw [rangeSize_eq]
  unfold Builtin.Range.rangeFitsLong
  simp only [show (1 : Int) > 0 by decide, if_true, Bool.and_eq_true, Bool.or_eq_true, decide_eq_true_eq]
  refine ⟨⟨⟨⟨?_, ?_⟩, ?_⟩, ?_⟩, .inr ?_⟩ <;> omega
theorem iterGo {A : Around} {env : Env} {c f : Sl} {σ : Sto} {α : List Addr} {s : Shared} {v : Value} {d : DV} {tup dv : Bool} {k : It → Bool} {E : Value → Shared → Prop} (I : IN Z cx env c f σ α s.heap) (r : V α s.heap v d) (hk : iterK tup dv d σ k = true) (Q : Value → Shared → Prop)
    (hQ : ∀ it h', k it = true → (∀ b o, s.heap.get? b = some o → h'.get? b = some o) → (∀ cx2 env2 D, ItOk cx2 env2 D α h' s.heap.objs.size it) → ((∃ n i z, it = .dvals n i z) → dv = true) → ((∃ n i z, it = .ditems n i z) → tup = true) → Q (.ref s.heap.objs.size) { s with heap := h' }) :
    wpAny (model Z.prog Z.w) A (pyIter v) Q E s := by
  have no : ∀ {it : It} {P : Prop}, (∀ n i z, it ≠ .ditems n i z) → ((∃ n i z, it = .ditems n i z) → P) := fun h ⟨n, i, z, e⟩ => (h n i z e).elim
  have no' : ∀ {it : It} {P : Prop}, (∀ n i z, it ≠ .dvals n i z) → ((∃ n i z, it = .dvals n i z) → P) := fun h ⟨n, i, z, e⟩ => (h n i z e).elim
  have tupl : ∀ d : DV, Chain d → V α s.heap v d → k (.ch d) = true → wpAny (model Z.prog Z.w) A (pyIter v) Q E s := by
    intro d cd r q
    obtain ⟨a, vs, rfl, ht, hv⟩ := V.asItems r cd
    have kk := push_keep s.heap { cls := .type "tuple_iterator", data := .fields #[.ref a, .int 0 0] }
    exact wpAny_pyIter_tuple ht (hQ _ _ q kk (fun _ _ _ => ⟨a, vs, 0, VI.imm hv (ImmK.of_keep kk), .inl ⟨⟨_, Heap.get?_push_size _ rfl, rfl, rfl⟩, isTuple_imm (ImmK.of_keep kk) ht⟩⟩) (no' fun _ _ _ q => by cases q) (no fun _ _ _ q => by cases q))
  cases d with
  | loc n =>
    obtain ⟨ob, e, q⟩ := nthO_iff hk
    obtain ⟨l, rfl, q⟩ := obL_iff q
    obtain ⟨a, vs, rfl, ha, L, _, _⟩ := I.list r e
    have kk := push_keep s.heap { cls := .type "list_iterator", data := .fields #[.ref a, .int 0 0] }
    exact wpAny_pyIter_list L.isList (hQ _ _ q kk (fun _ _ _ => ⟨a, ha, ⟨_, Heap.get?_push_size _ rfl, rfl, rfl⟩⟩) (no' fun _ _ _ q => by cases q) (no fun _ _ _ q => by cases q))
  | rng a n =>
    rcases ifB_iff (show ifB (Nat.ble a 1000) (ifB (Nat.ble n 1000) (k (.rng a n)) false) false = true from hk) with ⟨e1, q⟩ | ⟨_, q⟩
    case inr => cases q
    rcases ifB_iff q with ⟨e2, q⟩ | ⟨_, q⟩
    case inr => cases q
    obtain ⟨ra, t, u, w, rfl, hr⟩ := r
    refine wpAny_pyIter_range hr (rangeSmall (Nat.le_of_ble_eq_true e1) (Nat.le_of_ble_eq_true e2)) ?_
    rw [rangeSize_eq]
    exact hQ _ _ q (push_keep _ _) (fun _ _ _ => Heap.get?_push_size _ rfl) (no' fun _ _ _ q => by cases q) (no fun _ _ _ q => by cases q)
  | ditems n =>
    rcases ifB_iff (show ifB tup (nthO σ n fun o => obD o fun es => frcN (lenE es) fun z => k (.ditems n 0 z)) false = true from hk) with ⟨et, q⟩ | ⟨_, q⟩
    case inr => cases q
    obtain ⟨ob, e, q⟩ := nthO_iff q
    obtain ⟨es, rfl, q9⟩ := obD_iff q
    rw [frcN_eq, lenE_eq] at q9
    obtain ⟨d, va, hd, rfl, hview⟩ := r
    obtain ⟨_, _, xs, ⟨od, de, hod, hcd, hdd, hes, his, hnd⟩, Dr⟩ := I.sto.obj n d _ hd e
    refine iterItems hview hod hdd ?_
    have hz : de.size = es.length := by rw [size_of_entries hes, Dr.length]
    rw [hz, Dr.length]
    exact hQ _ _ q9 (push_keep _ _) (fun _ _ _ => ⟨d, .none, .none, hd, Heap.get?_push_size _ rfl⟩) (no' fun _ _ _ q => by cases q) fun _ => et
  | dvals n =>
    rcases ifB_iff (show ifB dv (nthO σ n fun o => obD o fun es => frcN (lenE es) fun z => k (.dvals n 0 z)) false = true from hk) with ⟨et, q⟩ | ⟨_, q⟩
    case inr => cases q
    obtain ⟨ob, e, q⟩ := nthO_iff q
    obtain ⟨es, rfl, q9⟩ := obD_iff q
    rw [frcN_eq, lenE_eq] at q9
    obtain ⟨d, va, hd, rfl, hview⟩ := r
    obtain ⟨_, _, xs, ⟨od, de, hod, hcd, hdd, hes, his, hnd⟩, Dr⟩ := I.sto.obj n d _ hd e
    refine iterValues hview hod hdd ?_
    have hz : de.size = es.length := by rw [size_of_entries hes, Dr.length]
    rw [hz, Dr.length]
    exact hQ _ _ q9 (push_keep _ _) (fun _ _ _ => ⟨d, hd, ⟨_, Heap.get?_push_size _ rfl, rfl, rfl⟩⟩) (fun _ => et) (no fun _ _ _ q => by cases q)
  | nil => exact tupl .nil trivial r hk
  | cons x y => exact tupl (.cons x y) trivial r hk
  | _ => exact absurd hk (by simp [iterK])
theorem iterL {A : Around} {env : Env} {c f : Sl} {σ : Sto} {α : List Addr} {s : Shared} {a : Addr} {vs : List Value} {d : DV} {E : Value → Shared → Prop} (I : IN Z cx env c f σ α s.heap) (L : IsL s.heap a vs.toArray) (r : VI α s.heap vs d) (no : ¬ Own cx env α a) (Q : Value → Shared → Prop)
    (hQ : ∀ h', (∀ b o, s.heap.get? b = some o → h'.get? b = some o) → (∀ cx2 env2 D, ¬ Own cx2 env2 α a → a ≠ D → ItOk cx2 env2 D α h' s.heap.objs.size (.ch d)) → Q (.ref s.heap.objs.size) { s with heap := h' }) :
    wpAny (model Z.prog Z.w) A (pyIter (.ref a)) Q E s := by
  have kk := push_keep s.heap { cls := .type "list_iterator", data := .fields #[.ref a, .int 0 0] }
  exact wpAny_pyIter_list L.isList (hQ _ kk fun _ _ _ no nD => ⟨a, vs, 0, VI.imm r (ImmK.of_keep kk), .inr ⟨⟨_, Heap.get?_push_size _ rfl, rfl, rfl⟩, L.keep fun ob e => kk a ob e, no, nD⟩⟩)
end
end Mine

set_option maxRecDepth 100000
namespace Mine
open PySem PySem.W PyProof.Rows PySem.Calls PySem.SeqAt

variable (Z : Base)
/-- a target -/
def ST (cx : Cx) (t : PySem.Expr) (g : GT) : Prop := ∀ {A : Around} {env : Env} {c f : Sl} {σ : Sto} {α : List Addr} {s : Shared} {v : Value} {d : DV} {k : Sl → Sl → Bool} {E : Value → Shared → Prop},
  A.handled = none → IN Z cx env c f σ α s.heap → V α s.heap v d → g d c f k = true → ∀ Q : Unit → Shared → Prop,
  (∀ c' f' h' tk', k c' f' = true → (cx.cn = none ∨ f' = f) → IN Z cx env c' f' σ α h' → Ext cx env α s.heap α h' → Q () { s with heap := h', toks := tk' }) →
  wpAny (model Z.prog Z.w) A (assign t env v) Q E s
variable {Z}
section
variable {cx : Cx}
noncomputable def pset (p : PN) (c f : Sl) (d : DV) : Sl × Sl := match p with
  | .c i => (c.set i d, f)
  | .f j => (c, f.set j d)
theorem getD_set_self {l : List DV} {i : Nat} {d : DV} : (l.set i d).getD i .unb = d ∨ (l.set i d).getD i .unb = .unb := by
  rw [List.getD_eq_getElem?_getD]
  by_cases h : i < l.length
  · rw [List.getElem?_set_self h]; exact .inl rfl
  · rw [List.getElem?_eq_none (by rw [List.length_set]; omega)]; exact .inr rfl
theorem getD_set_ne {l : List DV} {i j : Nat} {d : DV} (h : i ≠ j) : (l.set i d).getD j .unb = l.getD j .unb := by
  rw [List.getD_eq_getElem?_getD, List.getD_eq_getElem?_getD, List.getElem?_set_ne h]
theorem pget_set (p q : PN) (c f : Sl) (d : DV) : (p = q ∧ (pget q (pset p c f d).1 (pset p c f d).2 = d ∨ pget q (pset p c f d).1 (pset p c f d).2 = .unb)) ∨ (p ≠ q ∧ pget q (pset p c f d).1 (pset p c f d).2 = pget q c f) := by
  cases p with
  | c i =>
    cases q with
    | c j =>
      by_cases h : i = j
      · subst h; exact .inl ⟨rfl, by simp only [pget, pset, nthD_eq]; exact getD_set_self⟩
      · exact .inr ⟨fun q => h (by cases q; rfl), by simp only [pget, pset, nthD_eq]; exact getD_set_ne h⟩
    | f j => exact .inr ⟨(fun q => by cases q), rfl⟩
  | f i =>
    cases q with
    | c j => exact .inr ⟨(fun q => by cases q), rfl⟩
    | f j =>
      by_cases h : i = j
      · subst h; exact .inl ⟨rfl, by simp only [pget, pset, nthD_eq]; exact getD_set_self⟩
      · exact .inr ⟨fun q => h (by cases q; rfl), by simp only [pget, pset, nthD_eq]; exact getD_set_ne h⟩
/-- a name is bound -/
theorem storeGo {A : Around} {env : Env} {c f : Sl} {σ : Sto} {α : List Addr} {s : Shared} {v : Value} {d : DV} {x : Str} {p : PN} {E : Value → Shared → Prop} (hx : slotOf cx x = some p) (hc : (∃ i, p = .c i) ∨ cx.cn = none) (I : IN Z cx env c f σ α s.heap) (r : V α s.heap v d) (Q : Unit → Shared → Prop)
    (hQ : ∀ h' tk', IN Z cx env (pset p c f d).1 (pset p c f d).2 σ α h' → Ext cx env α s.heap α h' → Q () { s with heap := h', toks := tk' }) : wpAny (model Z.prog Z.w) A (storeName env x v) Q E s := by
  have hkindE := I.fr.kind
  have hp : (env.scope.kind == .class || (env.scope.kind == .module && env.locals != env.globals)) = false := by rw [hkindE]; rfl
  rcases I.fr.kn x p hx with hl | hl
  · obtain ⟨m, hm, hv⟩ := I.fr.ns
    refine wpAny_storeName_local hl hm (fun h' hn hs => ?_) hp
    have k : ∀ b o, b ≠ env.locals → s.heap.get? b = some o → h'.get? b = some o := fun b o hb e => hs.extBut b o hb e
    have notL : ∀ o, s.heap.get? env.locals = some o → ¬ Imm o := by
      intro o e
      obtain ⟨o', _, _, e', hd, _⟩ := hm
      rw [e] at e'; cases e'
      rintro (⟨_, _, q, _⟩ | ⟨_, q, _⟩) <;> (rw [hd] at q; cases q)
    have im : ImmK s.heap h' := fun b o e i => k b o (fun q => notL o (q ▸ e) i) e
    refine hQ h' (s.toks + 1) ⟨fun b o e => k b o (fun q => ?_) (I.base b o e), ⟨I.sto.len, I.sto.nod, fun n a o hn ho => (I.sto.obj n a o hn ho).keep (fun ob e => k a ob (fun q => I.aL (q ▸ List.mem_of_getElem? hn)) e) im⟩, ?_, I.fL, I.fC, I.fA, I.aL, I.aC⟩
      ⟨⟨[], (List.append_nil _).symm, fun _ x => nomatch x⟩, fun b o e no => k b o (fun q => no (.inl q)) e, fun b o e => ?_, im⟩
    · subst q; rw [I.fL] at e; cases e
    · refine ⟨I.fr.kind, I.fr.glo, I.fr.bui, I.fr.kn, I.fr.gl, I.fr.kf, I.fr.kc, ⟨_, hn, fun y q hq hk => ?_⟩, fun y q hq hk => ?_, I.fr.dL, I.fr.dX⟩
      · rcases pget_set p q c f d with ⟨rfl, e⟩ | ⟨ne, e⟩
        · cases slotOf_inj hq hx
          rcases e with e | e
          · rw [e]; exact .inr ⟨v, by rw [if_pos rfl], V.imm r im⟩
          · rw [e]; exact .inl rfl
        · rw [e]
          have hyx : y ≠ x := fun q' => by
            subst q'
            rw [hx] at hq
            exact ne (Option.some.inj hq)
          rw [if_neg hyx]
          exact (hv y q hq hk).imm im
      · rcases pget_set p q c f d with ⟨rfl, _⟩ | ⟨ne, e⟩
        · cases slotOf_inj hq hx
          rw [hk] at hl; cases hl
        · rw [e]
          obtain ⟨a, w, ha, ⟨o, ho, hd⟩, ow⟩ := I.fr.cl y q hq hk
          exact ⟨a, w, ha, ⟨o, k a o (fun q' => I.fr.dL y (q' ▸ ha)) ho, hd⟩, ow.imm im⟩
    · by_cases q : b = env.locals
      · subst q
        obtain ⟨o', _, _, e', _⟩ := hn
        exact ⟨o', e'⟩
      · exact ⟨o, k b o q e⟩
  · obtain ⟨a, v₀, ha, hcell, _⟩ := I.fr.cl x p hx hl
    refine wpAny_storeName_cell hkindE hl ha hcell fun h' hc' hs => ?_
    have k : ∀ b o, b ≠ a → s.heap.get? b = some o → h'.get? b = some o := fun b o hb e => hs.extBut b o hb e
    have hca : CellAt cx env a := ⟨x, p, hx, hl, ha⟩
    have hnone : cx.cn = none := by
      rcases hc with ⟨i, rfl⟩ | h
      · have := I.fr.kc x i hx
        rw [hl] at this; cases this
      · exact h
    have notC : ∀ o, s.heap.get? a = some o → ¬ Imm o := by
      intro o e
      obtain ⟨o', e', hd⟩ := hcell
      rw [e] at e'; cases e'
      rintro (⟨_, _, q, _⟩ | ⟨_, q, _⟩) <;> (rw [hd] at q; cases q)
    have im : ImmK s.heap h' := fun b o e i => k b o (fun q => notC o (q ▸ e) i) e
    refine hQ h' s.toks ⟨fun b o e => k b o (fun q => ?_) (I.base b o e), ⟨I.sto.len, I.sto.nod, fun n b o hn ho => (I.sto.obj n b o hn ho).keep (fun ob e => k b ob (fun q => I.aC a hca (q ▸ List.mem_of_getElem? hn)) e) im⟩, ?_, I.fL, I.fC, I.fA, I.aL, I.aC⟩
      ⟨⟨[], (List.append_nil _).symm, fun _ x => nomatch x⟩, fun b o e no => k b o (fun q => no (.inr (.inl ⟨hnone, q ▸ hca⟩))) e, fun b o e => ?_, im⟩
    · subst q; rw [I.fC _ hca] at e; cases e
    · refine ⟨I.fr.kind, I.fr.glo, I.fr.bui, I.fr.kn, I.fr.gl, I.fr.kf, I.fr.kc, ?_, fun y q hq hk => ?_, I.fr.dL, I.fr.dX⟩
      · obtain ⟨m, ⟨o, es, ep, ho, r'⟩, hv⟩ := I.fr.ns
        refine ⟨m, ⟨o, es, ep, k _ _ (fun q => I.fr.dL x (q ▸ ha)) ho, r'⟩, fun y q hq hk => ?_⟩
        rcases pget_set p q c f d with ⟨rfl, _⟩ | ⟨ne, e⟩
        · cases slotOf_inj hq hx
          rw [hk] at hl; cases hl
        · rw [e]; exact (hv y q hq hk).imm im
      · rcases pget_set p q c f d with ⟨rfl, e⟩ | ⟨ne, e⟩
        · cases slotOf_inj hq hx
          refine ⟨a, some v, ha, hc', ?_⟩
          rcases e with e | e
          · rw [e]; exact .inr ⟨v, rfl, V.imm r im⟩
          · rw [e]; exact .inl rfl
        · rw [e]
          obtain ⟨a', w, ha', ⟨o, ho, hd⟩, ow⟩ := I.fr.cl y q hq hk
          have hne : a' ≠ a := fun q' => by
            have := I.fr.dX y x a' ha' (q' ▸ ha)
            subst this
            rw [hx] at hq
            exact ne (Option.some.inj hq)
          exact ⟨a', w, ha', ⟨o, k a' o hne ho, hd⟩, ow.imm im⟩
    · by_cases q : b = a
      · subst q
        obtain ⟨o', e', _⟩ := hc'
        exact ⟨o', e'⟩
      · exact ⟨o, k b o q e⟩
end
end Mine

set_option maxRecDepth 100000
namespace Mine
open PySem PySem.W PyProof.Rows PySem.Calls PySem.SeqAt

variable {Z : Base}
section
variable {cx : Cx}
theorem ST.nmC {x : Str} {pos : Pos} {n : Nat} (hx : slotOf cx x = some (.c n)) : ST Z cx (.Name x pos) (tC n) := by
  intro A env c f σ α s v d k E hh I r hk Q hQ
  have hk' : setD c n d (fun c => k c f) = true := hk
  rw [setD_eq] at hk'
  exact wpAny_assign_Name (storeGo hx (.inl ⟨n, rfl⟩) I r Q fun h' tk' I' E' => hQ _ f h' tk' hk' (.inr rfl) I' E')
theorem ST.nmF {x : Str} {pos : Pos} {n : Nat} (hn : cx.cn = none) (hx : slotOf cx x = some (.f n)) : ST Z cx (.Name x pos) (tF n) := by
  intro A env c f σ α s v d k E hh I r hk Q hQ
  have hk' : setD f n d (fun f => k c f) = true := hk
  rw [setD_eq] at hk'
  exact wpAny_assign_Name (storeGo hx (.inr hn) I r Q fun h' tk' I' E' => hQ c _ h' tk' hk' (.inl hn) I' E')
theorem ST.tup {a b : PySem.Expr} {kk : Nat} {pos : Pos} {ga gb : GT} (hs : ∀ env, assignEach [a, b] env = [(false, assign a env), (false, assign b env)]) (ha : ST Z cx a ga) (hb : ST Z cx b gb) : ST Z cx (.Tuple [a, b] kk pos) (tTup ga gb) := by
  intro A env c f σ α s v d k E hh I r hk Q hQ
  obtain ⟨x, r1, rfl, q1⟩ := asCons_iff hk
  obtain ⟨y, r2, rfl, q2⟩ := asCons_iff q1
  rcases asCh_iff q2 with ⟨rfl, q3⟩ | ⟨_, _, _, q⟩
  case inr => cases q
  obtain ⟨t, vs, rfl, ht, u, us, rfl, ru, w, ws, rfl, rw', rfl⟩ := V.items r
  refine PySem.wpAny_assign_Tuple hh ht (by rw [hs]; rfl) (by rw [hs]; rfl) fun h' hx => ?_
  have kk' : ∀ b o, s.heap.get? b = some o → h'.get? b = some o := fun b o e => hx b o (Nat.ne_of_lt (Heap.lt_size e)) e
  have im := ImmK.of_keep kk'
  have I' := I.grow kk'
  rw [hs]
  show wpAny _ _ (do holding [w] (assign a env u); holding [] (assign b env w); assignInOrder [] []) _ _ _
  refine wpAny_bind (wpAny_holding (ha (s := { s with heap := h' }) hh I' (V.imm ru im) q3 _ fun c₁ f₁ h₁ t₁ q4 e₁ I₁ E₁ => ?_))
  refine wpAny_bind (wpAny_holding (hb (s := { s with heap := h₁, toks := t₁ }) hh I₁ (E₁.V (V.imm rw' im)) q4 _ fun c₂ f₂ h₂ t₂ q5 e₂ I₂ E₂ => ?_))
  refine wpAny_pure ?_
  refine hQ c₂ f₂ h₂ t₂ q5 ?_ I₂ ((Ext.grow kk').trans (E₁.trans E₂))
  rcases e₁ with e | rfl
  · exact .inl e
  · exact e₂
theorem Inv.anyC {prog : Program} {w : World} {h₀ : Heap} {env : Env} {c c' f : Sl} {σ : Sto} {α : List Addr} {h : Heap} (hn : cx.cn = none) (I : Inv prog w h₀ cx env c f σ α h) : Inv prog w h₀ cx env c' f σ α h := by
  have key : ∀ x p, slotOf cx x = some p → pget p c f = pget p c' f := by
    intro x p hx
    obtain ⟨cn, fnm⟩ := cx
    dsimp only at hn
    subst hn
    obtain ⟨j, k, _, rfl, _⟩ := slotF_idx (show slotF fnm x = some p from hx)
    rfl
  refine ⟨I.base, I.sto, ⟨I.fr.kind, I.fr.glo, I.fr.bui, I.fr.kn, I.fr.gl, I.fr.kf, I.fr.kc, ?_, fun x p hx hk => ?_, I.fr.dL, I.fr.dX⟩, I.fL, I.fC, I.fA, I.aL, I.aC⟩
  · obtain ⟨m, hm, hv⟩ := I.fr.ns
    exact ⟨m, hm, fun x p hx hk => key x p hx ▸ hv x p hx hk⟩
  · rw [← key x p hx]; exact I.fr.cl x p hx hk

variable (Z) in
/-- a statement -/
def SS (cx : Cx) (st : Stmt) (g : GS) : Prop := ∀ {m : Nat} {R : FSem} {A : Around} {env : Env} {f : Sl} {σ : Sto} {α : List Addr} {s : Shared} {kn : Sl → Sto → Bool} {kr : DV → Sto → Bool},
  RS Z m R → Room m A → IN Z cx env [] f σ α s.heap → g R f σ kn kr = true → ∀ Q : Flow → Shared → Prop,
  (∀ f' σ' α' h' tk', kn f' σ' = true → IN Z cx env [] f' σ' α' h' → Ext cx env α s.heap α' h' → Q .next { s with heap := h', toks := tk' }) →
  (∀ d σ' v α' h' tk' f', kr d σ' = true → IN Z cx env [] f' σ' α' h' → Ext cx env α s.heap α' h' → V α' h' v d → Q (.ret v) { s with heap := h', toks := tk' }) →
  wpAny (model Z.prog Z.w) A (exec st env) Q NoE s
variable (Z) in
def SSs (cx : Cx) (st : List Stmt) (g : GS) : Prop := ∀ {m : Nat} {R : FSem} {A : Around} {env : Env} {f : Sl} {σ : Sto} {α : List Addr} {s : Shared} {kn : Sl → Sto → Bool} {kr : DV → Sto → Bool},
  RS Z m R → Room m A → IN Z cx env [] f σ α s.heap → g R f σ kn kr = true → ∀ Q : Flow → Shared → Prop,
  (∀ f' σ' α' h' tk', kn f' σ' = true → IN Z cx env [] f' σ' α' h' → Ext cx env α s.heap α' h' → Q .next { s with heap := h', toks := tk' }) →
  (∀ d σ' v α' h' tk' f', kr d σ' = true → IN Z cx env [] f' σ' α' h' → Ext cx env α s.heap α' h' → V α' h' v d → Q (.ret v) { s with heap := h', toks := tk' }) →
  wpAny (model Z.prog Z.w) A (execs st env) Q NoE s
theorem SS.dead {st : Stmt} : SS Z cx st sDead := fun {m R A env f σ α s kn kr} hR hA I hk => by simp [sDead] at hk
theorem SSs.nil : SSs Z cx [] sNil := fun {m R A env f σ α s kn kr} hR hA I hk Q hN hr => wpAny_execs_nil (hN f σ α s.heap s.toks hk I Ext.refl)
theorem SSs.cons {a : Stmt} {b : List Stmt} {ga gb : GS} (ha : SS Z cx a ga) (hb : SSs Z cx b gb) : SSs Z cx (a :: b) (sCons ga gb) :=
  fun {m R A env f σ α s kn kr} hR hA I hk Q hN hr => wpAny_execs_cons (ha hR hA I hk _
    (fun f₁ σ₁ α₁ h₁ t₁ k₁ I₁ E₁ => hb (s := { s with heap := h₁, toks := t₁ }) hR hA I₁ k₁ Q (fun f₂ σ₂ α₂ h₂ t₂ k₂ I₂ E₂ => hN f₂ σ₂ α₂ h₂ t₂ k₂ I₂ (E₁.trans E₂)) fun d σ₂ v α₂ h₂ t₂ f₂ k₂ I₂ E₂ V₂ => hr d σ₂ v α₂ h₂ t₂ f₂ k₂ I₂ (E₁.trans E₂) V₂)
    fun d σ₁ v α₁ h₁ t₁ f₁ k₁ I₁ E₁ V₁ => hr d σ₁ v α₁ h₁ t₁ f₁ k₁ I₁ E₁ V₁)
theorem SS.ret {e : PySem.Expr} {pos : Pos} {g : GE} (he : SE Z cx e g) : SS Z cx (.Return (some e) pos) (sRet g) :=
  fun {m R A env f σ α s kn kr} hR hA I hk Q hN hr => wpAny_Return_some (he hR hA I hk _ fun d σ₁ v α₁ h₁ t₁ k₁ I₁ E₁ V₁ => hr d σ₁ v α₁ h₁ t₁ f k₁ I₁ E₁ V₁)
theorem SS.exp {e : PySem.Expr} {pos : Pos} {g : GE} (hs : ∀ env, swapsWith e none pos.line env = pure false) (he : SE Z cx e g) : SS Z cx (.Expr e pos) (sExp g) :=
  fun {m R A env f σ α s kn kr} hR hA I hk Q hN hr => wpAny_Expr_any (he hR hA I hk _ fun d σ₁ v α₁ h₁ t₁ k₁ I₁ E₁ V₁ => hN f σ₁ α₁ h₁ t₁ k₁ I₁ E₁) (by unfold interactive; rw [I.fr.kind]; first | rfl | simp) (hs _)
theorem SS.ife {t : PySem.Expr} {a b : List Stmt} {pos : Pos} {gt : GB} {ga gb : GS} (ht : SB Z cx t gt) (ha : SSs Z cx a ga) (hb : SSs Z cx b gb) : SS Z cx (.If t a b pos) (sIf gt ga gb) :=
  fun {m R A env f σ α s kn kr} hR hA I hk Q hN hr => wpAny_If (ht hR hA I hk _
    (fun σ₁ α₁ h₁ t₁ k₁ I₁ E₁ => ha (s := { s with heap := h₁, toks := t₁ }) hR hA I₁ k₁ Q (fun f₂ σ₂ α₂ h₂ t₂ k₂ I₂ E₂ => hN f₂ σ₂ α₂ h₂ t₂ k₂ I₂ (E₁.trans E₂)) fun d σ₂ v α₂ h₂ t₂ f₂ k₂ I₂ E₂ V₂ => hr d σ₂ v α₂ h₂ t₂ f₂ k₂ I₂ (E₁.trans E₂) V₂)
    fun σ₁ α₁ h₁ t₁ k₁ I₁ E₁ => hb (s := { s with heap := h₁, toks := t₁ }) hR hA I₁ k₁ Q (fun f₂ σ₂ α₂ h₂ t₂ k₂ I₂ E₂ => hN f₂ σ₂ α₂ h₂ t₂ k₂ I₂ (E₁.trans E₂)) fun d σ₂ v α₂ h₂ t₂ f₂ k₂ I₂ E₂ V₂ => hr d σ₂ v α₂ h₂ t₂ f₂ k₂ I₂ (E₁.trans E₂) V₂)
theorem SS.asg {t e : PySem.Expr} {pos : Pos} {gt : GT} {g : GE} (hn : cx.cn = none) (hs : ∀ env, swapsWithSole [t] e pos.line env = pure false) (hw : ∀ env : Env, (∀ x, env.kindOf x = cx.fnm.lookup x) → swappedStores [t] e env = pure none) (ha : ∀ env, assignEach [t] env = [(false, assign t env)])
    (ht : ST Z cx t gt) (he : SE Z cx e g) : SS Z cx (.Assign [t] e pos) (sAsg gt g) := by
  intro m R A env f σ α s kn kr hR hA I hk Q hN hr
  refine wpAny_Assign_stores (he hR hA I hk _ fun d σ₁ v α₁ h₁ t₁ k₁ I₁ E₁ V₁ => ?_) (hs _) (hw _ (I.fr.kf hn))
  rw [ha]
  show wpAny _ _ (assign t env v) _ _ _
  exact ht (s := { s with heap := h₁, toks := t₁ }) hA.hd I₁ V₁ k₁ _ fun c' f' h' tk' k₂ _ I₂ E₂ => hN f' σ₁ α₁ h' tk' k₂ (I₂.anyC hn) (E₁.trans E₂)
theorem SS.setI {o i e : PySem.Expr} {p1 pos : Pos} {go gi g : GE} (hs : ∀ env, swapsWith e (some (.Subscript o i p1)) pos.line env = pure false) (ho : SE Z cx o go) (hi : SE Z cx i gi) (he : SE Z cx e g) : SS Z cx (.Assign [.Subscript o i p1] e pos) (sSetI go gi g) := by
  intro m R A env f σ α s kn kr hR hA I hk Q hN hr
  refine wpAny_Assign_Subscript (he hR hA I hk _ fun d σ₁ v α₁ h₁ t₁ k₁ I₁ E₁ V₁ => ho (s := { s with heap := h₁, toks := t₁ }) hR hA I₁ k₁ _ fun a σ₂ v₂ α₂ h₂ t₂ k₂ I₂ E₂ V₂ => hi (s := { s with heap := h₂, toks := t₂ }) hR hA I₂ k₂ _ fun b σ₃ v₃ α₃ h₃ t₃ k₃ I₃ E₃ V₃ => ?_) (hs _)
  obtain ⟨n, rfl, q1⟩ := asLoc_iff k₃
  obtain ⟨mm, rfl, q2⟩ := keyOf_iff q1
  obtain ⟨vv, rfl, q3⟩ := asInt_iff q2
  obtain ⟨ob, eo, q4⟩ := nthO_iff q3
  obtain ⟨es, rfl, q5⟩ := obD_iff q4
  rw [putE_eq] at q5
  obtain ⟨hz, q6⟩ := ckE_iff q5
  rw [setO_eq] at q6
  obtain ⟨p, xs, rfl, hp, hp3, hz', L, Dr⟩ := I₃.dict (E₃.V V₂) eo
  obtain ⟨ka, rfl, hkey⟩ := V.key (prog := Z.prog) (w := Z.w) V₃
  obtain ⟨t, rfl⟩ := V₁
  refine setItemE (s := { s with heap := h₃, toks := t₃ }) (roomIn hA) hkey L (fun h' tk hE hs' => ?_) (by rw [Dr.length]; exact line60 hz')
  obtain ⟨_, _, _, _, _, _, _, hnd⟩ := L
  obtain ⟨I₄, E₄⟩ := I₃.setOb (h' := h') (o := .dict (put es mm vv)) hp (fun b o hb e => hs'.extBut b o hb e) fun im => ⟨hp3, hz, _, hE, DictR.put hnd Dr⟩
  exact hN f _ α₃ h' tk q6 I₄ (((E₁.trans E₂).trans E₃).trans E₄)
theorem SS.augI {o : PySem.Expr} {x : Str} {px p1 pos : Pos} {e : PySem.Expr} {go gi g : GE} (ho : SE Z cx o go) (hi : SE Z cx (.Name x px) gi) (he : SE Z cx e g) : SS Z cx (.AugAssign (.Subscript o (.Name x px) p1) .Add e pos) (sAugI go gi g) := by
  intro m R A env f σ α s kn kr hR hA I hk Q hN hr
  refine wpAny_AugAssign_Subscript (ho hR hA I hk _ fun a σ₁ v₁ α₁ h₁ t₁ k₁ I₁ E₁ V₁ => hi (s := { s with heap := h₁, toks := t₁ }) hR hA I₁ k₁ _ fun b σ₂ v₂ α₂ h₂ t₂ k₂ I₂ E₂ V₂ => ?_)
  obtain ⟨n, rfl, q1⟩ := asLoc_iff k₂
  obtain ⟨mm, rfl, q2⟩ := keyOf_iff q1
  obtain ⟨ob, eo, q3⟩ := nthO_iff q2
  obtain ⟨es, rfl, q4⟩ := obD_iff q3
  obtain ⟨p, xs, rfl, hp, hp3, hz', L, Dr⟩ := I₂.dict (E₂.V V₁) eo
  obtain ⟨ka, rfl, hkey⟩ := V.key (prog := Z.prog) (w := Z.w) V₂
  rcases lookE_iff Dr q4 with ⟨pr, w', tw, ea, ev, q5⟩ | ⟨_, q5⟩
  case inr => cases q5
  refine wpAny_getItem_heap (s := { s with heap := h₂, toks := t₂ }) (roomIn hA) hkey L.toH ea ?_
  refine he (s := { s with heap := h₂, toks := _ }) hR hA I₂ q5 _ fun d σ₃ v₃ α₃ h₃ t₃ k₃ I₃ E₃ V₃ => ?_
  obtain ⟨vv, rfl, q6⟩ := asInt_iff k₃
  obtain ⟨ob, eo', q7⟩ := nthO_iff q6
  obtain ⟨es', rfl, q8⟩ := obD_iff q7
  rw [frcN_eq, putE_eq] at q8
  obtain ⟨hz, q9⟩ := ckE_iff q8
  rw [setO_eq] at q9
  obtain ⟨t, rfl⟩ := V₃
  rw [ev]
  refine PySem.AutoIntOps.iadd_0 ?_
  obtain ⟨p', xs', ep, hp', _, hz'', L', Dr'⟩ := I₃.dict ((E₂.trans E₃).V V₁) eo'
  cases ep
  have hkey' := tupleKey_imm (prog := Z.prog) (w := Z.w) E₃.imm hkey
  refine setItemE (s := { s with heap := h₃, toks := _ }) (roomIn hA) hkey' L' (fun h' tk hE hs' => ?_) (by rw [Dr'.length]; exact line60 hz'')
  obtain ⟨_, _, _, _, _, _, _, hnd⟩ := L'
  obtain ⟨I₄, E₄⟩ := I₃.setOb (h' := h') (o := .dict (put es' mm (w' + vv))) hp' (fun b o hb e => hs'.extBut b o hb e) fun im => ⟨hp3, hz, _, hE, by
    have := DictR.put (m := mm) (v := w' + vv) (a := ka) (t := t₃) hnd Dr'
    rwa [show (((w' + vv : Nat) : Int)) = (w' : Int) + (vv : Int) by omega] at this⟩
  exact hN f _ α₃ h' tk q9 I₄ (((E₁.trans E₂).trans E₃).trans E₄)
theorem SS.augN {x : Str} {p1 pos : Pos} {e : PySem.Expr} {j : Nat} {g : GE} (hn : cx.cn = none) (hx : slotOf cx x = some (.f j)) (he : SE Z cx e g) : SS Z cx (.AugAssign (.Name x p1) .Add e pos) (sAugN j g) := by
  intro m R A env f σ α s kn kr hR hA I hk Q hN hr
  obtain ⟨w', ew, q1⟩ := asInt_iff hk
  refine wpAny_AugAssign_Name (loadSlot hx I (by show nthD f j ≠ _; rw [ew]; intro q; cases q) _ fun v₀ r₀ => ?_)
  have r₀' : V α s.heap v₀ (.int w') := by
    have : V α s.heap v₀ (nthD f j) := r₀
    rwa [ew] at this
  obtain ⟨t₀, rfl⟩ := r₀'
  refine he hR hA I q1 _ fun d σ₁ v₁ α₁ h₁ t₁ k₁ I₁ E₁ V₁ => ?_
  obtain ⟨vv, rfl, q2⟩ := asInt_iff k₁
  rw [frcN_eq, setD_eq] at q2
  obtain ⟨t, rfl⟩ := V₁
  refine PySem.AutoIntOps.iadd_0 ?_
  refine storeGo (d := .int (w' + vv)) (s := { s with heap := h₁, toks := t₁ + 1 }) hx (.inr hn) I₁ ⟨t₁, by rw [show (((w' + vv : Nat) : Int)) = (w' : Int) + (vv : Int) by omega]⟩ _ fun h' tk' I₂ E₂ => ?_
  exact hN _ σ₁ α₁ h' tk' q2 I₂ (E₁.trans E₂)
theorem SS.whl {t : PySem.Expr} {a : List Stmt} {pos : Pos} {gt : GB} {ga : GS} (ht : SB Z cx t gt) (ha : SSs Z cx a ga) : SS Z cx (.While t a [] pos) (sWhl gt ga) := by
  intro m R A env f σ α s kn kr hR hA I hk Q hN hr
  let F : Nat → Sl → Sto → Bool := fun n f σ => Nat.rec (motive := fun _ => Sl → Sto → Bool) (fun _ _ => false) (fun _ ih f σ => gt R [] f σ (fun σ => ga R f σ (fun f σ => ih f σ) kr) (fun σ => kn f σ)) n f σ
  refine wpAny_While (codeAny_whileLoop (fun n s' => ∃ f' σ' α' h' tk', s' = { s with heap := h', toks := tk' } ∧ F n f' σ' = true ∧ IN Z cx env [] f' σ' α' h' ∧ Ext cx env α s.heap α' h') ?_ 10000 ⟨f, σ, α, s.heap, s.toks, rfl, hk, I, Ext.refl⟩)
  rintro n s' ⟨f', σ', α', h', tk', rfl, hF, I', E'⟩
  cases n with
  | zero => cases hF
  | succ n =>
    refine wpAny_mono (ht (s := { s with heap := h', toks := tk' }) hR hA I' hF (fun b s₂ => if b = true then wpAny (model Z.prog Z.w) A (execs a env) (fun f s₃ => match f with
            | .next | .cont => ∃ m, m < n + 1 ∧ ∃ f' σ' α' h' tk', s₃ = { s with heap := h', toks := tk' } ∧ F m f' σ' = true ∧ IN Z cx env [] f' σ' α' h' ∧ Ext cx env α s.heap α' h'
            | .brk => Q .next s₃
            | .ret v => Q (.ret v) s₃) NoE s₂ else Q .next s₂) ?_ ?_) (fun b s₂ hb => ?_) fun _ _ x => x.elim
    · intro σ₁ α₁ h₁ t₁ k₁ I₁ E₁
      rw [if_pos rfl]
      refine ha (s := { s with heap := h₁, toks := t₁ }) hR hA I₁ k₁ _ (fun f₂ σ₂ α₂ h₂ t₂ k₂ I₂ E₂ => ?_) fun d σ₂ v α₂ h₂ t₂ f₂ k₂ I₂ E₂ V₂ => ?_
      · exact ⟨n, Nat.lt_succ_self n, f₂, σ₂, α₂, h₂, t₂, rfl, k₂, I₂, E'.trans (E₁.trans E₂)⟩
      · exact hr d σ₂ v α₂ h₂ t₂ f₂ k₂ I₂ (E'.trans (E₁.trans E₂)) V₂
    · intro σ₁ α₁ h₁ t₁ k₁ I₁ E₁
      rw [if_neg (by simp)]
      exact hN f' σ₁ α₁ h₁ t₁ k₁ I₁ (E'.trans E₁)
    · cases b with
      | true =>
        rw [if_pos rfl] at hb
        exact wpAny_mono hb (fun f s₃ h₃ => by cases f <;> exact h₃) fun _ _ x => x.elim
      | false =>
        rw [if_neg (by simp)] at hb
        exact wpAny_execs_nil hb
end
end Mine

set_option maxRecDepth 100000
namespace Mine
open PySem PySem.W PyProof.Rows PySem.Calls PySem.SeqAt

variable {Z : Base}
section
variable {cx : Cx}
theorem forGo {tgt : PySem.Expr} {body : List Stmt} {gt : GT} {gb : GS} (hn : cx.cn = none) (ht : ST Z cx tgt gt) (hb : SSs Z cx body gb) {m : Nat} {R : FSem} {A : Around} {env : Env} {f : Sl} {σ : Sto} {α α₁ : List Addr} {h : Heap} {s₁ : Shared} {kn : Sl → Sto → Bool} {kr : DV → Sto → Bool} {Ia : Addr} {it : It}
    (hR : RS Z m R) (hA : Room m A) (I₁ : IN Z cx env [] f σ α₁ s₁.heap) (ok : ItOk cx env env.locals α₁ s₁.heap Ia it) (h0 : Z.h₀.get? Ia = none) (hi : h.get? Ia = none) (E₁ : Ext cx env α h α₁ s₁.heap) (htup : (∃ n i z, it = .ditems n i z) → isTupE tgt = true)
    (hk : forK gt gb R it f σ kn kr = true) (Q : Flow → Shared → Prop)
    (hN : ∀ f' σ' α' h' tk', kn f' σ' = true → IN Z cx env [] f' σ' α' h' → Ext cx env α h α' h' → Q .next { s₁ with heap := h', toks := tk' })
    (hr : ∀ d σ' v α' h' tk' f', kr d σ' = true → IN Z cx env [] f' σ' α' h' → Ext cx env α h α' h' → V α' h' v d → Q (.ret v) { s₁ with heap := h', toks := tk' }) :
    codeAny (model Z.prog Z.w) A (.forLoop tgt (.ref Ia) body [] env) (fun r s' => match r with | .ok f => Q f s' | .error e => cameBackBy (model Z.prog Z.w) A env NoE e s') s₁ := by
  let F : Nat → It → Sl → Sto → Bool := fun n it f σ => Nat.rec (motive := fun _ => It → Sl → Sto → Bool) (fun _ _ _ => false) (fun _ ih it f σ => nextK it σ (kn f σ) fun d it => gt d [] f fun _ f => gb R f σ (fun f σ => ih it f σ) kr) n it f σ
  refine codeAny_forLoop_any (fun n s' => ∃ it f' σ' α' h' tk', s' = { s₁ with heap := h', toks := tk' } ∧ F n it f' σ' = true ∧ IN Z cx env [] f' σ' α' h' ∧ Ext cx env α h α' h' ∧ ItOk cx env env.locals α' h' Ia it ∧ ((∃ n i z, it = .ditems n i z) → isTupE tgt = true)) ?_ 10000
    ⟨it, f, σ, α₁, s₁.heap, s₁.toks, rfl, hk, I₁, E₁, ok, htup⟩
  rintro n s' ⟨it', f', σ', α', h', tk', rfl, hF, I', E', ok', htup'⟩
  cases n with
  | zero => cases hF
  | succ n =>
    obtain ⟨oi, vsi, hoi, hdi, _⟩ := ok'.fields
    refine nextGo (s := { s₁ with heap := h', toks := tk' }) I' ok' hA.hd h0 hF htup' _ (fun q h₂ k₂ I₂ => ?_) fun d it₂ v h₂ t₂ q hd mid => ?_
    · exact wpAny_execs_nil (hN f' σ' α' h₂ tk' q I₂ (E'.turn k₂ hi))
    · refine mid _ fun h₃ k₃ I₃ ok₃ V₃ => ?_
      have E₃ := E'.turn k₃ hi
      refine ht (s := { s₁ with heap := h₃, toks := t₂ }) hA.hd I₃ V₃ q _ fun c₄ f₄ h₄ t₄ q₄ _ I₄ E₄ => ?_
      have no₃ := (I₃.notFields ok₃.fields.choose_spec.choose_spec.1 ok₃.fields.choose_spec.choose_spec.2.1).1
      have ok₄ := ok₃.keep E₄ no₃
      have I₄' := I₄.anyC (c' := []) hn
      have no₄ := (I₄'.notFields ok₄.fields.choose_spec.choose_spec.1 ok₄.fields.choose_spec.choose_spec.2.1).1
      refine wpAny_mono (hb (s := { s₁ with heap := h₄, toks := t₄ }) hR hA I₄' q₄ (fun f s₃ => match f with
            | .next | .cont => ∃ m, m < n + 1 ∧ ∃ it f' σ' α' h' tk', s₃ = { s₁ with heap := h', toks := tk' } ∧ F m it f' σ' = true ∧ IN Z cx env [] f' σ' α' h' ∧ Ext cx env α h α' h' ∧ ItOk cx env env.locals α' h' Ia it ∧ ((∃ n i z, it = .ditems n i z) → isTupE tgt = true)
            | .brk => Q .next s₃
            | .ret v => Q (.ret v) s₃) (fun f₅ σ₅ α₅ h₅ t₅ q₅ I₅ E₅ => ?_) fun d σ₅ v α₅ h₅ t₅ f₅ q₅ I₅ E₅ V₅ => ?_) (fun f s₃ h₃ => by cases f <;> exact h₃) fun _ _ x => x.elim
      · exact ⟨n, Nat.lt_succ_self n, it₂, f₅, σ₅, α₅, h₅, t₅, rfl, q₅, I₅, (E₃.trans E₄).trans E₅, ok₄.keep E₅ no₄, fun e => htup' (hd e)⟩
      · exact hr d σ₅ v α₅ h₅ t₅ f₅ q₅ I₅ ((E₃.trans E₄).trans E₅) V₅
theorem SS.for {tgt iter : PySem.Expr} {body : List Stmt} {pos : Pos} {gt : GT} {g : GE} {gb : GS} (hn : cx.cn = none) (hs : ∀ env x, foldedSetIterable iter env x = pure x) (ht : ST Z cx tgt gt) (he : SE Z cx iter g) (hb : SSs Z cx body gb) : SS Z cx (.For tgt iter body [] pos) (sFor (isTupE tgt) gt g gb) := by
  intro m R A env f σ α s kn kr hR hA I hk Q hN hr
  refine wpAny_For (he hR hA I hk _ fun d σ₁ v α₁ h₁ t₁ k₁ I₁ E₁ V₁ => ?_) (hs env)
  refine iterGo (s := { s with heap := h₁, toks := t₁ }) I₁ V₁ k₁ _ fun it h₂ k₂ kk ok _ htup => ?_
  have fr : h₁.get? h₁.objs.size = none := fresh_none h₁
  exact forGo (s₁ := { s with heap := h₂, toks := t₁ }) hn ht hb hR hA (I₁.grow kk) (ok _ _ _) (base_none I₁ fr) (E₁.fresh fr) (E₁.trans (Ext.grow kk)) htup k₂ Q hN hr
theorem SS.forL {tgt iter : PySem.Expr} {body : List Stmt} {pos : Pos} {gt : GT} {g : GE} {gb : GS} (hn : cx.cn = none) (hs : ∀ env x, foldedSetIterable iter env x = pure x) (ht : ST Z cx tgt gt) (he : SL Z cx iter g) (hb : SSs Z cx body gb) : SS Z cx (.For tgt iter body [] pos) (sForL gt g gb) := by
  intro m R A env f σ α s kn kr hR hA I hk Q hN hr
  refine wpAny_For (he hR hA I hk _ fun d σ₁ a vs α₁ h₁ t₁ k₁ I₁ E₁ L₁ V₁ f₁ n₁ => ?_) (hs env)
  refine iterL (s := { s with heap := h₁, toks := t₁ }) I₁ L₁ V₁ n₁ _ fun h₂ kk ok => ?_
  have fr : h₁.get? h₁.objs.size = none := fresh_none h₁
  exact forGo (s₁ := { s with heap := h₂, toks := t₁ }) hn ht hb hR hA (I₁.grow kk) (ok _ _ _ n₁ fun q => n₁ (.inl q)) (base_none I₁ fr) (E₁.fresh fr) (E₁.trans (Ext.grow kk)) (fun ⟨_, _, _, q⟩ => by cases q) k₁ Q hN hr
end
end Mine

set_option maxRecDepth 100000
namespace Mine
open PySem PySem.W PyProof.Rows PySem.Calls PySem.SeqAt

def tmElt (elt : PySem.Expr) (acc : Value) (env : Env) (K : Sem Fin) : Sem Fin := (eval elt env >>= fun x => call (.builtin "list.append") [acc, x] >>= fun _ => pure ()) >>= fun _ => K
def tmIf (c : PySem.Expr) (tm : Value → Env → Sem Fin → Sem Fin) (acc : Value) (env : Env) (K : Sem Fin) : Sem Fin :=
  (forIn [c] true fun c r => if r = true then do let ok ← isTrue c env (eval c env); pure (ForInStep.yield ok) else pure (ForInStep.yield r)) >>= fun ok => if ok = true then tm acc env K else K
def tmFor (e iter : PySem.Expr) (acc : Value) (env : Env) (K : Sem Fin) : Sem Fin :=
  eval iter env >>= fun x => standAt iter.pos >>= fun _ => foldedSetIterable iter env x >>= fun x => holding [x] (pyIter x) >>= fun it => runOwn (.compStart e 1 it acc env) env >>= fun _ => K
def turnForm (e t : PySem.Expr) (p : Pos) (depth : Nat) (tm : Value → Env → Sem Fin → Sem Fin) (it acc : Value) (env : Env) : Sem Fin :=
  standAt p >>= fun _ => pyNext it >>= fun r => match r with
      | none => pure (.done .next)
      | some v => letOwnedTupleGo t it v >>= fun _ => assign t env v >>= fun _ => tm acc env (again (.compLoop e depth it acc env))
theorem turn_elt (elt t iter : PySem.Expr) (scope : Scope) (pos : Pos) (it acc : Value) (env : Env) :
    compTurn (.ListComp elt [⟨t, iter, [], 0⟩] scope pos) 0 it acc env = turnForm (.ListComp elt [⟨t, iter, [], 0⟩] scope pos) t iter.pos 0 (tmElt elt) it acc env := by rfl
theorem turn_if (elt t iter c : PySem.Expr) (scope : Scope) (pos : Pos) (it acc : Value) (env : Env) :
    compTurn (.ListComp elt [⟨t, iter, [c], 0⟩] scope pos) 0 it acc env = turnForm (.ListComp elt [⟨t, iter, [c], 0⟩] scope pos) t iter.pos 0 (tmIf c (tmElt elt)) it acc env := by rfl
theorem turn_for (elt t iter t2 iter2 : PySem.Expr) (scope : Scope) (pos : Pos) (it acc : Value) (env : Env) :
    compTurn (.ListComp elt [⟨t, iter, [], 0⟩, ⟨t2, iter2, [], 0⟩] scope pos) 0 it acc env = turnForm (.ListComp elt [⟨t, iter, [], 0⟩, ⟨t2, iter2, [], 0⟩] scope pos) t iter.pos 0 (tmFor (.ListComp elt [⟨t, iter, [], 0⟩, ⟨t2, iter2, [], 0⟩] scope pos) iter2) it acc env := by rfl
theorem turn_elt2 (elt t iter t2 iter2 : PySem.Expr) (scope : Scope) (pos : Pos) (it acc : Value) (env : Env) :
    compTurn (.ListComp elt [⟨t, iter, [], 0⟩, ⟨t2, iter2, [], 0⟩] scope pos) 1 it acc env = turnForm (.ListComp elt [⟨t, iter, [], 0⟩, ⟨t2, iter2, [], 0⟩] scope pos) t2 iter2.pos 1 (tmElt elt) it acc env := by rfl

/-- what a step leaves as it was, but for one list -/
structure ExtD (D : Addr) (cx : Cx) (env : Env) (α : List Addr) (h : Heap) (α' : List Addr) (h' : Heap) : Prop where
  pre : ∃ t, α' = α ++ t ∧ ∀ a ∈ t, h.get? a = none
  keep : ∀ b o, h.get? b = some o → ¬ Own cx env α b → b ≠ D → h'.get? b = some o
  live : ∀ b o, h.get? b = some o → ∃ o', h'.get? b = some o'
  imm : ImmK h h'
section
variable {cx : Cx} {env : Env} {D : Addr} {α α' α'' : List Addr} {h h' h'' : Heap}
theorem ExtD.of (x : Ext cx env α h α' h') : ExtD D cx env α h α' h' := ⟨x.pre, fun b o e no _ => x.keep b o e no, x.live, x.imm⟩
theorem ExtD.trans (x : ExtD D cx env α h α' h') (y : ExtD D cx env α' h' α'' h'') : ExtD D cx env α h α'' h'' := by
  obtain ⟨t, rfl, ht⟩ := x.pre
  obtain ⟨u, rfl, hu⟩ := y.pre
  refine ⟨⟨t ++ u, List.append_assoc _ _ _, fun a ha => ?_⟩, fun b o e hb hD => ?_, fun b o e => ?_, x.imm.trans y.imm⟩
  · rcases List.mem_append.mp ha with ha | ha
    · exact ht a ha
    · cases hq : h.get? a with
      | none => rfl
      | some o =>
        obtain ⟨o', e'⟩ := x.live a o hq
        rw [hu a ha] at e'; cases e'
  · refine y.keep b o (x.keep b o e hb hD) ?_ hD
    rintro (q | q | q)
    · exact hb (.inl q)
    · exact hb (.inr (.inl q))
    · rcases List.mem_append.mp q with q | q
      · exact hb (.inr (.inr q))
      · rw [ht b q] at e; cases e
  · obtain ⟨o', e'⟩ := x.live b o e
    exact y.live b o' e'
theorem ExtD.turn {it : Addr} (x : ExtD D cx env α h α' h') (k : ∀ b o, b ≠ it → h'.get? b = some o → h''.get? b = some o) (hi : h.get? it = none) : ExtD D cx env α h α' h'' := by
  have ne : ∀ b o, h.get? b = some o → b ≠ it := fun b o e q => by subst q; rw [hi] at e; cases e
  refine ⟨x.pre, fun b o e hb hD => k b o (ne b o e) (x.keep b o e hb hD), fun b o e => ?_, fun b o e i => k b o (ne b o e) (x.imm b o e i)⟩
  obtain ⟨o', e'⟩ := x.live b o e
  exact ⟨o', k b o' (ne b o e) e'⟩
theorem ExtD.VI {v : List Value} {d : DV} (x : ExtD D cx env α h α' h') (r : VI α h v d) : Mine.VI α' h' v d := by
  obtain ⟨t, rfl, _⟩ := x.pre
  exact r.mono x.imm
theorem ExtD.at {n : Nat} {a : Addr} (x : ExtD D cx env α h α' h') (e : α[n]? = some a) : α'[n]? = some a := by
  obtain ⟨t, rfl, _⟩ := x.pre
  rw [List.getElem?_append_left (List.getElem?_eq_some_iff.mp e).1]
  exact e
theorem ExtD.notOwn {b : Addr} {o : Obj} (x : ExtD D cx env α h α' h') (e : h.get? b = some o) (no : ¬ Own cx env α b) : ¬ Own cx env α' b := by
  obtain ⟨t, rfl, ht⟩ := x.pre
  rintro (q | q | q)
  · exact no (.inl q)
  · exact no (.inr (.inl q))
  · rcases List.mem_append.mp q with q | q
    · exact no (.inr (.inr q))
    · rw [ht b q] at e; cases e
theorem ItOk.keepD {I : Addr} {it : It} (x : ItOk cx env D α h I it) (E : ExtD D cx env α h α' h') (no : ¬ Own cx env α I) (nD : I ≠ D) : ItOk cx env D α' h' I it := by
  cases it with
  | list n i =>
    obtain ⟨a, ha, o, ho, r⟩ := x
    exact ⟨a, E.at ha, o, E.keep _ _ ho no nD, r⟩
  | ch d =>
    obtain ⟨T, vs, i, r, ⟨⟨o, ho, q⟩, ht⟩ | ⟨⟨o, ho, q⟩, hl, nT, nTD⟩⟩ := x
    · exact ⟨T, vs, i, E.VI r, .inl ⟨⟨o, E.keep _ _ ho no nD, q⟩, isTuple_imm E.imm ht⟩⟩
    · obtain ⟨k, hk⟩ := hl
      exact ⟨T, vs, i, E.VI r, .inr ⟨⟨o, E.keep _ _ ho no nD, q⟩, ⟨k, E.keep _ _ hk nT nTD⟩, E.notOwn hk nT, nTD⟩⟩
  | rng a n => exact E.keep _ _ x no nD
  | ditems n i z =>
    obtain ⟨d, ok, ov, hd, ho⟩ := x
    exact ⟨d, ok, ov, E.at hd, E.keep _ _ ho no nD⟩
  | dvals n i z =>
    obtain ⟨d, hd, o, ho, r⟩ := x
    exact ⟨d, E.at hd, o, E.keep _ _ ho no nD, r⟩
theorem ItOk.neD {I : Addr} {it : It} {xs : Array Value} (x : ItOk cx env D α h I it) (L : IsL h D xs) : I ≠ D := by
  rintro rfl
  obtain ⟨o, vs, ho, hd, _⟩ := x.fields
  obtain ⟨n, hL⟩ := L
  rw [ho] at hL; cases hL
  cases hd
end
variable {Z : Base}
section
variable {cx : Cx}
theorem itSelf {A : Around} {E : Value → Shared → Prop} {env : Env} {D : Addr} {α : List Addr} {s : Shared} {Ia : Addr} {it : It} {Q : Value → Shared → Prop} (ok : ItOk cx env D α s.heap Ia it) (h1 : ∀ n i z, it ≠ .ditems n i z) (h2 : ∀ n i z, it ≠ .dvals n i z) (h : Q (.ref Ia) s) : wpAny (model Z.prog Z.w) A (pyIter (.ref Ia)) Q E s := by
  cases it with
  | list n i =>
    obtain ⟨a, _, hit⟩ := ok
    exact wpAny_pyIter_listiter hit h
  | ch d =>
    obtain ⟨T, vs, i, _, ⟨hit, _⟩ | ⟨hit, _⟩⟩ := ok
    · exact wpAny_pyIter_tupleiter hit h
    · exact wpAny_pyIter_listiter hit h
  | rng a n => exact wpAny_pyIter_rangeiter ok h
  | ditems n i z => exact (h1 n i z rfl).elim
  | dvals n i z => exact (h2 n i z rfl).elim
theorem startGo {A : Around} {R : Result → Shared → Prop} {s : Shared} {elt : PySem.Expr} {gens : List Comprehension} {scope : Scope} {pos : Pos} {depth : Nat} {g : Comprehension} {it acc : Value} {env : Env} (hg : (clausesOf (.ListComp elt gens scope pos))[depth]? = some g) (ha : g.is_async = 0)
    (h0 : codeAny (model Z.prog Z.w) A (.compLoop (.ListComp elt gens scope pos) depth it acc env) R s)
    (h : wpAny (model Z.prog Z.w) A (pyIter it) (fun it' s' => codeAny (model Z.prog Z.w) A (.compLoop (.ListComp elt gens scope pos) depth it' acc env) R s') NoE s) :
    codeAny (model Z.prog Z.w) A (.compStart (.ListComp elt gens scope pos) depth it acc env) R s := by
  refine codeAny_of_tree ?_
  show wpAny _ _ ((compStart (.ListComp elt gens scope pos) depth it acc env).onRaise (fun x => do noteFrame x env; standAt theWindowsPlace)) _ _ s
  refine wpAny_notedAt ?_
  unfold compStart
  rw [hg]
  have hf : (Option.elim (some g) false fun x => x.is_async != 0) = false := by simp [ha]
  simp only [hf, Bool.false_eq_true, if_false]
  refine wpAny_bind (wpAny_askSetting (wpAny_ite ?_))
  split
  · first
      | exact wpAny_bind (wpAny_pure (wpAny_pure (And.intro rfl h0)))
      | exact wpAny_pure (And.intro rfl h0)
  · refine wpAny_bind (wpAny_rule ?_)
    refine wpAny_bind (wpAny_standAt ?_)
    exact wpAny_bind (wpAny_mono h (fun it' s' h' => wpAny_pure (And.intro rfl h')) fun _ _ x => x.elim)

variable (Z) in
/-- what each turn of a comprehension does behind its target -/
def SCt (cx : Cx) (tm : Value → Env → Sem Fin → Sem Fin) (g : GC) : Prop := ∀ {m : Nat} {R : FSem} {A : Around} {env : Env} {c f : Sl} {acc : DV} {σ : Sto} {α : List Addr} {s : Shared} {k : KC},
  RS Z m R → Room m A → IN Z cx env c f σ α s.heap → ∀ (D : Addr) (vs : List Value), IsL s.heap D vs.toArray → VI α s.heap vs acc → ¬ Own cx env α D → Z.h₀.get? D = none → vs.length ≤ 60 → g R c f acc σ k = true → ∀ (K : Sem Fin) (Q : Fin → Shared → Prop),
  (∀ c' acc' σ' α' h' tk' vs', k c' acc' σ' = true → IN Z cx env c' f σ' α' h' → ExtD D cx env α s.heap α' h' → IsL h' D (List.toArray vs') → VI α' h' vs' acc' → ¬ Own cx env α' D → vs'.length ≤ 60 → wpAny (model Z.prog Z.w) A K Q NoE { s with heap := h', toks := tk' }) →
  wpAny (model Z.prog Z.w) A (tm (.ref D) env K) Q NoE s
theorem SCt.elt {e : PySem.Expr} {g : GE} (he : SE Z cx e g) : SCt Z cx (tmElt e) (cElt g) := by
  intro m R A env c f acc σ α s k hR hA I D vs L V nD hD0 hz hk K Q hK
  refine wpAny_bind (wpAny_bind (he hR hA I hk _ fun d σ₁ v α₁ h₁ t₁ k₁ I₁ E₁ V₁ => wpAny_bind ?_))
  obtain ⟨g1, q⟩ := ck_iff (appC_iff k₁)
  obtain ⟨nn, hL0⟩ := L
  have hL := E₁.keep _ _ hL0 nD
  have no₁ := E₁.notOwn hL0 nD
  have VV : VI α₁ h₁ (vs ++ [v]) (app acc (.cons d .nil)) := VI.app (show VI α₁ h₁ [v] (.cons d .nil) from ⟨v, [], rfl, V₁, rfl⟩) (E₁.VI V)
  have up := PySem.IsL.update (h := h₁) hL fun x => x.push v
  have kk : ∀ b o, b ≠ D → h₁.get? b = some o → (h₁.update D (Obj.mapSeq fun x => x.push v)).get? b = some o := fun b o hb e => keepBut b o hb e
  have hzv : (vs ++ [v]).length ≤ 60 := g1.size VV
  have notI : ∀ o, h₁.get? D = some o → ¬ Imm o := by
    intro o e
    rw [hL] at e; cases e
    rintro (⟨_, _, _, q⟩ | ⟨_, q, _⟩)
    · exact absurd (Value.type.inj q) (by decide)
    · cases q
  have I₂ := I₁.turn kk hD0 no₁ (I₁.notCell hL fun v q => by cases q) notI
  have im : ImmK h₁ (h₁.update D (Obj.mapSeq fun x => x.push v)) := fun b o e i => kk b o (fun q => by subst q; exact notI o e i) e
  have E₂ : ExtD D cx env α s.heap α₁ (h₁.update D (Obj.mapSeq fun x => x.push v)) := by
    refine ⟨E₁.pre, fun b o e no ne => kk b o ne (E₁.keep b o e no), fun b o e => ?_, E₁.imm.trans im⟩
    by_cases q : b = D
    · subst q; exact ⟨_, up⟩
    · obtain ⟨o', e'⟩ := E₁.live b o e
      exact ⟨o', kk b o' q e'⟩
  have L₂ : IsL (h₁.update D (Obj.mapSeq fun x => x.push v)) D (vs ++ [v]).toArray := by
    rw [show (vs ++ [v]).toArray = vs.toArray.push v by simp]
    exact ⟨_, up⟩
  refine call_meets PySem.F.slot_list_append ⟨_, hL, rfl⟩ PySem.F.entry_list_append (PySem.F.args_list_append_2 _ _) (PySem.AutoListH.list_append_list_val_0 D vs.toArray nn v (by rw [List.size_toArray]; exact line60 hz)) ⟨hL, ?_⟩
  exact wpAny_pure (hK c _ σ₁ α₁ _ t₁ (vs ++ [v]) q I₂ E₂ L₂ (VV.imm im) no₁ hzv)
theorem SCt.ifs {c₀ : PySem.Expr} {tm : Value → Env → Sem Fin → Sem Fin} {gb : GB} {r : GC} (hb : SB Z cx c₀ gb) (hr : SCt Z cx tm r) : SCt Z cx (tmIf c₀ tm) (cIf gb r) := by
  intro m R A env c f acc σ α s k hR hA I D vs L V nD hD0 hz hk K Q hK
  refine wpAny_bind (wpAny_tests_one (hb hR hA I hk _ (fun σ₁ α₁ h₁ t₁ k₁ I₁ E₁ => ?_) fun σ₁ α₁ h₁ t₁ k₁ I₁ E₁ => ?_))
  · rw [if_pos rfl]
    obtain ⟨nn, hL0⟩ := L
    refine hr (s := { s with heap := h₁, toks := t₁ }) hR hA I₁ D vs ⟨nn, E₁.keep _ _ hL0 nD⟩ (E₁.VI V) (E₁.notOwn hL0 nD) hD0 hz k₁ K Q fun c' acc' σ' α' h' tk' vs' q I' E' L' V' n' z' => ?_
    exact hK c' acc' σ' α' h' tk' vs' q I' ((ExtD.of E₁).trans E') L' V' n' z'
  · rw [if_neg (by simp)]
    obtain ⟨nn, hL0⟩ := L
    exact hK c acc σ₁ α₁ h₁ t₁ vs k₁ I₁ (ExtD.of E₁) ⟨nn, E₁.keep _ _ hL0 nD⟩ (E₁.VI V) (E₁.notOwn hL0 nD) hz
theorem compLoopGo {elt : PySem.Expr} {gens : List Comprehension} {scope : Scope} {pos : Pos} {depth : Nat} {t : PySem.Expr} {p : Pos} {tm : Value → Env → Sem Fin → Sem Fin} {gt : GT} {gb : GC}
    (hturn : ∀ it acc env, compTurn (.ListComp elt gens scope pos) depth it acc env = turnForm (.ListComp elt gens scope pos) t p depth tm it acc env) (ht : ST Z cx t gt) (hb : SCt Z cx tm gb) (hcn : cx.cn ≠ none)
    {m : Nat} {R : FSem} {A : Around} {env : Env} {c f : Sl} {acc : DV} {σ : Sto} {α α₁ : List Addr} {h : Heap} {s₁ : Shared} {k : KC} {Ia : Addr} {it : It} {D : Addr} {vs : List Value}
    (hR : RS Z m R) (hA : Room m A) (I₁ : IN Z cx env c f σ α₁ s₁.heap) (ok : ItOk cx env D α₁ s₁.heap Ia it) (hnd : ∀ n i z, it ≠ .ditems n i z) (h0 : Z.h₀.get? Ia = none) (hi : h.get? Ia = none)
    (hL : IsL s₁.heap D vs.toArray) (hV : VI α₁ s₁.heap vs acc) (nD : ¬ Own cx env α₁ D) (hD0 : Z.h₀.get? D = none) (hz : vs.length ≤ 60) (E₁ : ExtD D cx env α h α₁ s₁.heap) (hk : cLoop gt gb it R c f acc σ k = true) (Rr : Result → Shared → Prop)
    (hRr : ∀ c' acc' σ' α' h' tk' vs', k c' acc' σ' = true → IN Z cx env c' f σ' α' h' → ExtD D cx env α h α' h' → IsL h' D (List.toArray vs') → VI α' h' vs' acc' → ¬ Own cx env α' D → vs'.length ≤ 60 → Rr (.ok .next) { s₁ with heap := h', toks := tk' }) :
    codeAny (model Z.prog Z.w) A (.compLoop (.ListComp elt gens scope pos) depth (.ref Ia) (.ref D) env) Rr s₁ := by
  let F : Nat → It → Sl → DV → Sto → Bool := fun n it c acc σ => Nat.rec (motive := fun _ => It → Sl → DV → Sto → Bool) (fun _ _ _ _ => false)
    (fun _ ih it c acc σ => nextK it σ (k c acc σ) fun d it => gt d c f fun c _ => gb R c f acc σ fun c acc σ => ih it c acc σ) n it c acc σ
  refine codeAny_loop rfl (fun n s' => ∃ it c' acc' σ' α' h' tk' vs', s' = { s₁ with heap := h', toks := tk' } ∧ F n it c' acc' σ' = true ∧ IN Z cx env c' f σ' α' h' ∧ ExtD D cx env α h α' h' ∧ ItOk cx env D α' h' Ia it ∧ (∀ n i z, it ≠ .ditems n i z) ∧
      IsL h' D (List.toArray vs') ∧ VI α' h' vs' acc' ∧ ¬ Own cx env α' D ∧ vs'.length ≤ 60) ?_ 10000
    ⟨it, c, acc, σ, α₁, s₁.heap, s₁.toks, vs, rfl, hk, I₁, E₁, ok, hnd, hL, hV, nD, hz⟩
  rintro n s' ⟨it', c', acc', σ', α', h', tk', vs', rfl, hF, I', E', ok', hnd', L', V', n', z'⟩
  show wpAny _ _ ((compTurn (.ListComp elt gens scope pos) depth (.ref Ia) (.ref D) env).onRaise (fun x => do noteFrame x env; theTreesLotGoes x)) _ _ _
  refine wpAny_noted ?_
  rw [hturn]
  refine wpAny_bind (wpAny_standAt (wpAny_bind ?_))
  cases n with
  | zero => cases hF
  | succ n =>
    have hne := ok'.neD L'
    obtain ⟨nn, hL'⟩ := L'
    refine nextGo (tgt := t) (s := { s₁ with heap := h', toks := tk' }) I' ok' hA.hd h0 hF (fun ⟨n, i, z, e⟩ => (hnd' n i z e).elim) _ (fun q h₂ k₂ I₂ => ?_) fun d it₂ v h₂ t₂ q hd mid => ?_
    · refine wpAny_pure (hRr c' acc' σ' α' h₂ tk' vs' q I₂ (E'.turn k₂ hi) ⟨nn, k₂ D _ (Ne.symm hne) hL'⟩ ?_ n' z')
      exact V'.imm (itTurn I' ok' h0 k₂).2
    · refine wpAny_bind (mid _ fun h₃ k₃ I₃ ok₃ V₃ => ?_)
      have E₃ := E'.turn k₃ hi
      have L₃ := k₃ D _ (Ne.symm hne) hL'
      have V'₃ := V'.imm (itTurn I' ok' h0 k₃).2
      refine wpAny_bind (ht (s := { s₁ with heap := h₃, toks := t₂ }) hA.hd I₃ V₃ q _ fun c₄ f₄ h₄ t₄ q₄ hf I₄ E₄ => ?_)
      have hf' : f₄ = f := hf.resolve_left hcn
      subst hf'
      have no₃ := (I₃.notFields ok₃.fields.choose_spec.choose_spec.1 ok₃.fields.choose_spec.choose_spec.2.1).1
      have ok₄ := ok₃.keep E₄ no₃
      have no₄ := (I₄.notFields ok₄.fields.choose_spec.choose_spec.1 ok₄.fields.choose_spec.choose_spec.2.1).1
      have L₄ := E₄.keep _ _ L₃ n'
      refine wpAny_mono (hb (s := { s₁ with heap := h₄, toks := t₄ }) hR hA I₄ D vs' ⟨nn, L₄⟩ (E₄.VI V'₃) (E₄.notOwn L₃ n') hD0 z' q₄ _ (fun fin s'' => match fin with
        | .done f => Rr (.ok f) s''
        | .again c' => c' = (.compLoop (.ListComp elt gens scope pos) depth (.ref Ia) (.ref D) env : Code) ∧ ∃ m, m < n + 1 ∧ ∃ it c' acc' σ' α' h' tk' vs', s'' = { s₁ with heap := h', toks := tk' } ∧ F m it c' acc' σ' = true ∧ IN Z cx env c' f₄ σ' α' h' ∧ ExtD D cx env α h α' h' ∧ ItOk cx env D α' h' Ia it ∧ (∀ n i z, it ≠ .ditems n i z) ∧
      IsL h' D (List.toArray vs') ∧ VI α' h' vs' acc' ∧ ¬ Own cx env α' D ∧ vs'.length ≤ 60) fun c₅ acc₅ σ₅ α₅ h₅ t₅ vs₅ q₅ I₅ E₅ L₅ V₅ n₅ z₅ => ?_) (fun fin s'' hfin => hfin) fun _ _ x => x.elim
      exact wpAny_pure ⟨rfl, n, Nat.lt_succ_self n, it₂, c₅, acc₅, σ₅, α₅, h₅, t₅, vs₅, rfl, q₅, I₅, (E₃.trans (ExtD.of E₄)).trans E₅, ok₄.keepD E₅ no₄ hne, fun n i z e => by obtain ⟨n', i', z', e'⟩ := hd ⟨n, i, z, e⟩; exact hnd' _ _ _ e', L₅, V₅, n₅, z₅⟩
theorem iterK_plain {d : DV} {σ : Sto} {k : It → Bool} : True := trivial
theorem SCt.for {elt : PySem.Expr} {gens : List Comprehension} {scope : Scope} {pos : Pos} {g₂ : Comprehension} {t iter : PySem.Expr} {p : Pos} {tm : Value → Env → Sem Fin → Sem Fin} {gt : GT} {g : GE} {gb : GC} (hg : (clausesOf (.ListComp elt gens scope pos))[1]? = some g₂) (ha : g₂.is_async = 0)
    (hturn : ∀ it acc env, compTurn (.ListComp elt gens scope pos) 1 it acc env = turnForm (.ListComp elt gens scope pos) t p 1 tm it acc env) (hs : ∀ env x, foldedSetIterable iter env x = pure x) (ht : ST Z cx t gt) (he : SE Z cx iter g) (hb : SCt Z cx tm gb) (hcn : cx.cn ≠ none) :
    SCt Z cx (tmFor (.ListComp elt gens scope pos) iter) (cFor gt g gb) := by
  intro m R A env c f acc σ α s k hR hA I D vs L V nD hD0 hz hk K Q hK
  refine wpAny_bind (he hR hA I hk _ fun d σ₁ v α₁ h₁ t₁ k₁ I₁ E₁ V₁ => wpAny_bind (wpAny_standAt (wpAny_bind (wpAny_of_eq (hs _ _) (wpAny_bind (wpAny_holding ?_))))))
  obtain ⟨nn, hL0⟩ := L
  have hL := E₁.keep _ _ hL0 nD
  have no₁ := E₁.notOwn hL0 nD
  refine iterGo (s := { s with heap := h₁, toks := t₁ }) I₁ V₁ k₁ _ fun it h₂ k₂ kk ok hdv htup => ?_
  have nd1 : ∀ n i z, it ≠ .ditems n i z := fun n i z e => by have := htup ⟨n, i, z, e⟩; cases this
  have nd2 : ∀ n i z, it ≠ .dvals n i z := fun n i z e => by have := hdv ⟨n, i, z, e⟩; cases this
  have fr : h₁.get? h₁.objs.size = none := fresh_none h₁
  have I₂ := I₁.grow kk
  have E₂ : Ext cx env α₁ h₁ α₁ h₂ := Ext.grow kk
  have loop : codeAny (model Z.prog Z.w) A (.compLoop (.ListComp elt gens scope pos) 1 (.ref h₁.objs.size) (.ref D) env) (fun r s' => match r with | .ok f => (fun _ s'' => wpAny (model Z.prog Z.w) A K Q NoE s'') f s' | .error e => cameBackBy (model Z.prog Z.w) A env NoE e s') { s with heap := h₂, toks := t₁ } := by
    refine compLoopGo (h := h₁) (α := α₁) (s₁ := { s with heap := h₂, toks := t₁ }) hturn ht hb hcn hR hA I₂ (ok _ _ _) nd1 (base_none I₁ fr) fr ⟨nn, kk _ _ hL⟩ (E₂.VI (E₁.VI V)) no₁ hD0 hz (ExtD.of E₂) k₂ _ fun c' acc' σ' α' h' tk' vs' q I' E' L' V' n' z' => ?_
    exact hK c' acc' σ' α' h' tk' vs' q I' ((ExtD.of E₁).trans E') L' V' n' z'
  refine wpAny_bind (wpAny_runOwn (Q := fun _ s'' => wpAny (model Z.prog Z.w) A K Q NoE s'') (startGo hg ha loop (itSelf (s := { s with heap := h₂, toks := t₁ }) (ok cx env D) nd1 nd2 loop)))
end
end Mine

set_option maxRecDepth 100000
namespace Mine
open PySem PySem.W PyProof.Rows PySem.Calls PySem.SeqAt

-- a comprehension's names
def clOf (env : Env) : List (Str × NameKind) → List (Str × Addr) → List (Str × Addr)
  | [], cs => cs
  | (n, k) :: r, cs => clOf env r (if k == .free then (n, (env.cells.lookup n).getD 0) :: cs else cs)
theorem closure_eq {scope : Scope} {env : Env} (h : ∀ y ∈ scope.names, y.2 = .free → ∃ a, env.cells.lookup y.1 = some a) : closureFor scope env = pure (clOf env scope.names []) := by
  have go : ∀ (l : List (Str × NameKind)) (cs : List (Str × Addr)), (∀ y ∈ l, y.2 = .free → ∃ a, env.cells.lookup y.1 = some a) →
      (forIn l cs (fun (x : Str × NameKind) (r : List (Str × Addr)) => if (x.2 == NameKind.free) = true then (do let a ← cellOf env x.1; pure (ForInStep.yield ((x.1, a) :: r)) : Sem (ForInStep (List (Str × Addr)))) else pure (ForInStep.yield r))) = (pure (clOf env l cs) : Sem (List (Str × Addr))) := by
    intro l
    induction l with
    | nil => intro cs _; rw [List.forIn_nil]; rfl
    | cons y r ih =>
      intro cs hy
      rw [List.forIn_cons]
      have hr := ih (if y.2 == .free then (y.1, (env.cells.lookup y.1).getD 0) :: cs else cs) fun z hz => hy z (List.mem_cons_of_mem _ hz)
      by_cases hk : y.2 = .free
      · obtain ⟨a, ha⟩ := hy y List.mem_cons_self hk
        have hk' : (y.2 == NameKind.free) = true := by rw [hk]; rfl
        have hc : cellOf env y.1 = pure a := by unfold cellOf; rw [ha]
        rw [if_pos hk'] at hr ⊢
        rw [ha] at hr
        rw [hc]
        simp only [pure_bind]
        rw [show clOf env (y :: r) cs = clOf env r (if y.2 == .free then (y.1, (env.cells.lookup y.1).getD 0) :: cs else cs) from rfl, if_pos hk', ha]
        exact hr
      · have hk' : ¬ (y.2 == NameKind.free) = true := by simpa using hk
        rw [if_neg hk'] at hr ⊢
        simp only [pure_bind]
        rw [show clOf env (y :: r) cs = clOf env r (if y.2 == .free then (y.1, (env.cells.lookup y.1).getD 0) :: cs else cs) from rfl, if_neg hk']
        exact hr
  have := go scope.names [] h
  simp only [closureFor]
  first
    | exact this
    | (rw [this]; simp only [pure_bind])
    | (rw [this]; rfl)
theorem clOf_spec {env : Env} {x : Str} : ∀ (l : List (Str × NameKind)) (cs : List (Str × Addr)), (∀ y ∈ l, y.2 = .free → ∃ a, env.cells.lookup y.1 = some a) →
    ((∃ y ∈ l, y.1 = x ∧ y.2 = .free) ∧ (clOf env l cs).lookup x = env.cells.lookup x) ∨ ((∀ y ∈ l, y.1 = x → y.2 ≠ .free) ∧ (clOf env l cs).lookup x = cs.lookup x)
  | [], cs, _ => .inr ⟨(fun _ h => nomatch h), rfl⟩
  | (n, k) :: r, cs, h => by
    have e : clOf env ((n, k) :: r) cs = clOf env r (if k == .free then (n, (env.cells.lookup n).getD 0) :: cs else cs) := rfl
    rw [e]
    rcases clOf_spec (x := x) r (if k == .free then (n, (env.cells.lookup n).getD 0) :: cs else cs) (fun y hy => h y (List.mem_cons_of_mem _ hy)) with ⟨⟨y, hy, q⟩, e2⟩ | ⟨h1, e2⟩
    · exact .inl ⟨⟨y, List.mem_cons_of_mem _ hy, q⟩, e2⟩
    · rw [e2]
      by_cases hk : k = .free
      · subst hk
        by_cases hx : n = x
        · subst hx
          obtain ⟨a, ha⟩ := h (n, .free) List.mem_cons_self rfl
          refine .inl ⟨⟨_, List.mem_cons_self, rfl, rfl⟩, ?_⟩
          have ha' : env.cells.lookup n = some a := ha
          rw [if_pos (show (NameKind.free == NameKind.free) = true from rfl), ha']
          simp
        · refine .inr ⟨fun y hy q => ?_, ?_⟩
          · rcases List.mem_cons.mp hy with rfl | hy
            · exact (hx q).elim
            · exact h1 y hy q
          · rw [if_pos (show (NameKind.free == NameKind.free) = true from rfl), List.lookup_cons]
            have : (x == n) = false := beq_eq_false_iff_ne.mpr fun q => hx q.symm
            rw [this]
      · refine .inr ⟨fun y hy q => ?_, ?_⟩
        · rcases List.mem_cons.mp hy with rfl | hy
          · exact hk
          · exact h1 y hy q
        · rw [if_neg (by simpa using hk)]
theorem relab_lookup {env : Env} {x : Str} : ∀ (l : List (Str × NameKind)), (l.map fun (n, k) => if (k == NameKind.free && env.scope.kind == .function && env.kindOf n == some .cell) then (n, NameKind.cell) else (n, k)).lookup x =
    (l.lookup x).map fun k => if (k == NameKind.free && env.scope.kind == .function && env.kindOf x == some .cell) then NameKind.cell else k
  | [] => rfl
  | (n, k) :: r => by
    have ih := relab_lookup (env := env) (x := x) r
    rw [List.map_cons]
    by_cases hx : x = n
    · subst hx
      by_cases hc : (k == NameKind.free && env.scope.kind == .function && env.kindOf x == some .cell) = true
      · simp only [hc, if_true, List.lookup_cons, beq_self_eq_true, Option.map_some]
      · simp only [hc, List.lookup_cons, beq_self_eq_true, Option.map_some, if_false, Bool.false_eq_true]
    · have hb : (x == n) = false := beq_eq_false_iff_ne.mpr hx
      by_cases hc : (k == NameKind.free && env.scope.kind == .function && env.kindOf n == some .cell) = true
      · simp only [hc, if_true, List.lookup_cons, hb]
        exact ih
      · simp only [hc, List.lookup_cons, hb, if_false, Bool.false_eq_true]
        exact ih
theorem mem_lookup : ∀ {l : List (Str × NameKind)} {x : Str} {k : NameKind}, l.lookup x = some k → (x, k) ∈ l
  | [], _, _, h => by simp at h
  | (y, k') :: r, x, k, h => by
    rw [List.lookup_cons] at h
    by_cases e : x = y
    · subst e
      simp only [beq_self_eq_true, Option.some.injEq] at h
      subst h
      exact List.mem_cons_self
    · have hb : (x == y) = false := beq_eq_false_iff_ne.mpr e
      rw [hb] at h
      exact List.mem_cons_of_mem _ (mem_lookup h)
theorem lookup_idx : ∀ {l : List (Str × NameKind)} {x : Str} {k : NameKind}, l.lookup x = some k → ∃ j, idx l x = some (j, k)
  | [], _, _, h => by simp at h
  | (y, k') :: r, x, k, h => by
    rw [List.lookup_cons] at h
    by_cases e : y = x
    · subst e
      simp only [beq_self_eq_true, Option.some.injEq] at h
      subst h
      exact ⟨0, by unfold idx; rw [if_pos rfl]⟩
    · have hb : (x == y) = false := beq_eq_false_iff_ne.mpr fun q => e q.symm
      rw [hb] at h
      obtain ⟨j, hj⟩ := lookup_idx h
      exact ⟨j + 1, by unfold idx; rw [if_neg e, hj]; rfl⟩
def scOk (fnm : List (Str × NameKind)) (scope : Scope) : Bool :=
  scope.kind == .function && scope.names.all fun (n, k) => k != .cell && (k != .free || fnm.lookup n == some .cell) && (k != .local || scope.names.lookup n == some .local)
theorem scOk_iff {fnm : List (Str × NameKind)} {scope : Scope} (h : scOk fnm scope = true) : scope.kind = .function ∧ (∀ y ∈ scope.names, y.2 ≠ .cell) ∧ (∀ y ∈ scope.names, y.2 = .free → fnm.lookup y.1 = some .cell) ∧ (∀ y ∈ scope.names, y.2 = .local → scope.names.lookup y.1 = some .local) := by
  unfold scOk at h
  simp only [Bool.and_eq_true, beq_iff_eq, List.all_eq_true, bne_iff_ne, ne_eq, Bool.or_eq_true] at h
  obtain ⟨h1, h2⟩ := h
  refine ⟨h1, fun y hy => (h2 y hy).1.1, fun y hy e => ?_, fun y hy e => ?_⟩
  · exact (h2 y hy).1.2.resolve_left fun q => q e
  · exact (h2 y hy).2.resolve_left fun q => q e

variable {Z : Base}
section
variable {fnm : List (Str × NameKind)}
theorem freeAt {env : Env} {c f : Sl} {σ : Sto} {α : List Addr} {h : Heap} (I : IN Z ⟨none, fnm⟩ env c f σ α h) {x : Str} (hx : fnm.lookup x = some .cell) : ∃ j a v, slotOf ⟨none, fnm⟩ x = some (.f j) ∧ idx fnm x = some (j, .cell) ∧ env.kindOf x = some .cell ∧ env.cells.lookup x = some a ∧ h.IsCell a v ∧ Opt α h v (pget (.f j) c f) := by
  obtain ⟨j, hj⟩ := lookup_idx hx
  have hs : slotOf ⟨none, fnm⟩ x = some (.f j) := by
    show slotF fnm x = _
    unfold slotF; rw [hj]
  have hk : env.kindOf x = some .cell := (I.fr.kf rfl x).trans hx
  obtain ⟨a, v, ha, hc, ho⟩ := I.fr.cl x _ hs hk
  exact ⟨j, a, v, hs, hj, hk, ha, hc, ho⟩
/-- into a comprehension -/
theorem Inv.enter {env : Env} {c c' f : Sl} {σ : Sto} {α : List Addr} {h : Heap} {scope : Scope} {C : Addr} {m : Str → Option Value} (I : IN Z ⟨none, fnm⟩ env c f σ α h) (hsc : scOk fnm scope = true) (hm : h.Ns C m) (hc' : ∀ i, nthD c' i = .unb) (nC : ¬ Own ⟨none, fnm⟩ env α C) (h0 : Z.h₀.get? C = none) :
    IN Z ⟨some scope.names, fnm⟩ (compEnvC scope (clOf env scope.names []) C env) c' f σ α h := by
  obtain ⟨s1, s2, s3, s4⟩ := scOk_iff hsc
  have hfree : ∀ y ∈ scope.names, y.2 = .free → ∃ a, env.cells.lookup y.1 = some a := fun y hy e => by
    obtain ⟨j, a, v, _, _, _, ha, _⟩ := freeAt I (s3 y hy e)
    exact ⟨a, ha⟩
  have hkind : ∀ x, (compEnvC scope (clOf env scope.names []) C env).kindOf x = (scope.names.lookup x).map fun k => if (k == NameKind.free && env.scope.kind == .function && env.kindOf x == some .cell) then NameKind.cell else k := fun x => relab_lookup scope.names
  have hloc : ∀ x i, idx scope.names x = some (i, .local) → (compEnvC scope (clOf env scope.names []) C env).kindOf x = some .local := fun x i hi => by
    rw [hkind, idx_lookup hi]; rfl
  have hcell : ∀ x i j, idx scope.names x = some (i, .free) → idx fnm x = some (j, .cell) → (compEnvC scope (clOf env scope.names []) C env).kindOf x = some .cell := fun x i j hi hj => by
    rw [hkind, idx_lookup hi, I.fr.kind, I.fr.kf rfl x, idx_lookup hj]; rfl
  have hmem : ∀ {x i k}, idx scope.names x = some (i, k) → ∃ y ∈ scope.names, y.1 = x ∧ y.2 = k := fun {x i k} hi => by
    have := idx_lookup hi
    exact ⟨(x, k), mem_lookup this, rfl, rfl⟩
  have hcl : ∀ x a, (clOf env scope.names []).lookup x = some a → env.cells.lookup x = some a ∧ fnm.lookup x = some .cell := fun x a ha => by
    rcases clOf_spec (x := x) scope.names [] hfree with ⟨⟨y, hy, rfl, e⟩, q⟩ | ⟨_, q⟩
    · exact ⟨q ▸ ha, s3 y hy e⟩
    · rw [q] at ha; simp at ha
  have cellC : ∀ x a, (clOf env scope.names []).lookup x = some a → ∃ j v, CellAt ⟨none, fnm⟩ env a ∧ slotOf ⟨none, fnm⟩ x = some (.f j) ∧ h.IsCell a v ∧ Opt α h v (pget (.f j) c f) := fun x a ha => by
    obtain ⟨e1, e2⟩ := hcl x a ha
    obtain ⟨j, a', v, hs, hj, hk, ha', hc, ho⟩ := freeAt I e2
    rw [e1] at ha'; cases ha'
    exact ⟨j, v, ⟨x, _, hs, hk, e1⟩, hs, hc, ho⟩
  refine ⟨I.base, I.sto, ⟨s1, I.fr.glo, I.fr.bui, fun x p hx => ?_, fun x hx => ?_, (fun q => by cases q), fun x i hx => ?_, ⟨m, hm, fun x p hx hk => ?_⟩, fun x p hx hk => ?_, fun x hx => ?_, fun x y a hx hy => ?_⟩, h0, fun b hb => ?_, I.fA, fun q => nC (.inr (.inr q)), fun b hb => ?_⟩
  · rcases slotOf_c hx with ⟨i, hi, _⟩ | ⟨i, j, hi, hj, _⟩
    · exact .inl (hloc x i hi)
    · exact .inr (hcell x i j hi hj)
  · have hx' : scope.names.lookup x = some .globalImplicit := by simpa [globOf] using hx
    rw [hkind, hx']; rfl
  · rcases slotOf_c hx with ⟨i, hi, _⟩ | ⟨i, j, hi, hj, e⟩
    · exact hloc x i hi
    · cases e
  · rcases slotOf_c hx with ⟨i, hi, rfl⟩ | ⟨i, j, hi, hj, rfl⟩
    · exact .inl (hc' i)
    · rw [hcell x i j hi hj] at hk; cases hk
  · rcases slotOf_c hx with ⟨i, hi, rfl⟩ | ⟨i, j, hi, hj, rfl⟩
    · rw [hloc x i hi] at hk; cases hk
    · obtain ⟨y, hy, e1, e2⟩ := hmem hi
      obtain ⟨j', a, v, hs, hj', hk', ha, hc, ho⟩ := freeAt I (e1 ▸ s3 y hy e2)
      rw [hj] at hj'; cases hj'
      refine ⟨a, v, ?_, hc, ho⟩
      rcases clOf_spec (x := x) scope.names [] hfree with ⟨_, q⟩ | ⟨q, _⟩
      · exact q.trans ha
      · exact (q y hy e1 e2).elim
  · obtain ⟨j, v, hca, _⟩ := cellC x _ hx
    exact nC (.inr (.inl ⟨rfl, hca⟩))
  · exact I.fr.dX x y a (hcl x a hx).1 (hcl y a hy).1
  · obtain ⟨x, p, hp, hk, hl⟩ := hb
    obtain ⟨j, v, hca, _⟩ := cellC x b hl
    exact I.fC b hca
  · obtain ⟨x, p, hp, hk, hl⟩ := hb
    obtain ⟨j, v, hca, _⟩ := cellC x b hl
    exact I.aC b hca
/-- out of a comprehension -/
theorem Inv.leave {env cenv : Env} {c c' f : Sl} {σ σ' : Sto} {α α' : List Addr} {h h' : Heap} {ns : List (Str × NameKind)} {D : Addr} (I : IN Z ⟨none, fnm⟩ env c f σ α h) (J : IN Z ⟨some ns, fnm⟩ cenv c' f σ' α' h') (E : ExtD D ⟨some ns, fnm⟩ cenv α h α' h') (hC : h.get? cenv.locals = none) (hD : h.get? D = none) (nD : D ∉ α') :
    IN Z ⟨none, fnm⟩ env c f σ' α' h' ∧ Ext ⟨none, fnm⟩ env α h α' h' ∧ ¬ Own ⟨none, fnm⟩ env α' D ∧ ¬ Own ⟨none, fnm⟩ env α' cenv.locals := by
  have live : ∀ b, Own ⟨none, fnm⟩ env α b → ∃ o, h.get? b = some o := by
    intro b hb
    cases q : h.get? b with
    | some o => exact ⟨o, rfl⟩
    | none => exact (new_notOwn I q hb).elim
  have keep : ∀ b o, h.get? b = some o → b ∉ α → h'.get? b = some o := by
    intro b o e hb
    refine E.keep b o e ?_ fun q => by subst q; rw [hD] at e; cases e
    rintro (q | ⟨q, _⟩ | q)
    · subst q; rw [hC] at e; cases e
    · cases q
    · exact hb q
  obtain ⟨t, rfl, ht⟩ := E.pre
  have inH : ∀ b, (b = env.locals ∨ CellAt ⟨none, fnm⟩ env b) → b ∉ α ++ t := by
    intro b hb q
    rcases List.mem_append.mp q with q | q
    · rcases hb with rfl | hb
      · exact I.aL q
      · exact I.aC b hb q
    · obtain ⟨o, e⟩ := live b (hb.elim .inl fun q => .inr (.inl ⟨rfl, q⟩))
      rw [ht b q] at e; cases e
  have nw : ∀ b, h.get? b = none → b ∉ α ++ t → ¬ Own ⟨none, fnm⟩ env (α ++ t) b := by
    rintro b hb hm (q | q | q)
    · obtain ⟨o, e⟩ := live b (.inl q)
      rw [hb] at e; cases e
    · obtain ⟨o, e⟩ := live b (.inr (.inl q))
      rw [hb] at e; cases e
    · exact hm q
  refine ⟨⟨J.base, J.sto, I.fr.step t (fun o e => keep _ o e I.aL) (fun b o hb e => keep b o e (I.aC b hb)) E.imm, I.fL, I.fC, J.fA, inH _ (.inl rfl), fun b hb => inH b (.inr hb)⟩, ⟨⟨t, rfl, ht⟩, fun b o e no => keep b o e fun q => no (.inr (.inr q)), E.live, E.imm⟩, nw D hD nD, nw _ hC J.aL⟩
end
end Mine

set_option maxRecDepth 100000
namespace Mine
open PySem PySem.W PyProof.Rows PySem.Calls PySem.SeqAt

variable {Z : Base}
section
variable {fnm : List (Str × NameKind)}
theorem repl_unb : ∀ (n i : Nat), nthD (repl n) i = .unb
  | 0, i => rfl
  | n + 1, 0 => rfl
  | n + 1, i + 1 => repl_unb n i
theorem compCore {elt t iter : PySem.Expr} {p : Pos} {ifs : List PySem.Expr} {more : List Comprehension} {scope : Scope} {pos : Pos} {gt : GT} {gb : GC} {tm : Value → Env → Sem Fin → Sem Fin} (hsc : scOk fnm scope = true)
    (hturn : ∀ it acc env, compTurn (.ListComp elt (⟨t, iter, ifs, 0⟩ :: more) scope pos) 0 it acc env = turnForm (.ListComp elt (⟨t, iter, ifs, 0⟩ :: more) scope pos) t p 0 tm it acc env)
    (ht : ST Z ⟨some scope.names, fnm⟩ t gt) (hb : SCt Z ⟨some scope.names, fnm⟩ tm gb)
    {m : Nat} {R : FSem} {A : Around} {env : Env} {f : Sl} {σ : Sto} {α : List Addr} {h₁ : Heap} {s₂ : Shared} {it : It} {n : Nat} {k : K1} {use : Option (Value → Sem Unit)} {Q : Value → Shared → Prop}
    (hR : RS Z m R) (hA : Room m A) (I₁ : IN Z ⟨none, fnm⟩ env [] f σ α h₁) (kk : ∀ b o, h₁.get? b = some o → s₂.heap.get? b = some o) (hlt : h₁.objs.size < s₂.heap.objs.size)
    (ok : ∀ (cenv : Env) D, (∀ b o, h₁.get? b = some o → b ≠ cenv.locals) → h₁.get? D = none → ItOk ⟨some scope.names, fnm⟩ cenv D α s₂.heap h₁.objs.size it) (nd1 : ∀ n i z, it ≠ .ditems n i z) (nd2 : ∀ n i z, it ≠ .dvals n i z)
    (hk : cLoop gt gb it R (repl n) f .nil σ (fun _ acc σ => k acc σ) = true)
    (hfin : ∀ acc' σ' α' h' tk' vs' D C, k acc' σ' = true → IN Z ⟨none, fnm⟩ env [] f σ' α' h' → Ext ⟨none, fnm⟩ env α h₁ α' h' → IsL h' D (List.toArray vs') → VI α' h' vs' acc' → h₁.get? D = none → ¬ Own ⟨none, fnm⟩ env α' D → D ≠ C → h₁.get? C = none → ¬ Own ⟨none, fnm⟩ env α' C → Z.h₀.get? C = none →
      (∃ m, h'.Ns C m) → compPost (model Z.prog Z.w) A NoE use Q (.ref D) C (.ok .next) { s₂ with heap := h', toks := tk' }) :
    wpAny (model Z.prog Z.w) A (newList []) (fun acc s₃ => wpAny (model Z.prog Z.w) A (newFunctionEnv scope env.globals (clOf env scope.names []) [] env.qual none .none (some env)) (fun cenv s₄ =>
      codeAny (model Z.prog Z.w) A (.compStart (.ListComp elt (⟨t, iter, ifs, 0⟩ :: more) scope pos) 0 (.ref h₁.objs.size) acc { cenv with scope := relabel scope env }) (compPost (model Z.prog Z.w) A NoE use Q acc cenv.locals) s₄) NoE s₃) NoE s₂ := by
  obtain ⟨s1, s2, s3, s4⟩ := scOk_iff hsc
  refine wpAny_newObj_type (wpAny_newFunctionEnv s2 (by intro y hy; simp at hy) (fun h₄ hns hsb => ?_) s1)
  dsimp only at hns hsb ⊢
  generalize hH : s₂.heap.push { cls := .type "list", dict := none, data := .seq ([] : List Value).toArray } = H at hns hsb ⊢
  have hC : H.objs.size = s₂.heap.objs.size + 1 := by rw [← hH, Heap.size_push]
  have k24 : ∀ b o, s₂.heap.get? b = some o → h₄.get? b = some o := fun b o e => by
    have h1 : H.get? b = some o := by rw [← hH]; exact Heap.get?_push_of_some _ e
    exact hsb.extBut b o (Nat.ne_of_lt (Heap.lt_size h1)) (Heap.get?_push_of_some _ h1)
  have k14 : ∀ b o, h₁.get? b = some o → h₄.get? b = some o := fun b o e => k24 b o (kk b o e)
  have fresh : ∀ a, h₁.objs.size ≤ a → h₁.get? a = none := fun a ha => Heap.get?_none_of_le ha
  have hIa : h₁.get? h₁.objs.size = none := fresh_none h₁
  have hDn : h₁.get? s₂.heap.objs.size = none := fresh _ (Nat.le_of_lt hlt)
  have hCn : h₁.get? H.objs.size = none := fresh _ (by rw [hC]; exact Nat.le_succ_of_le (Nat.le_of_lt hlt))
  have hDC : s₂.heap.objs.size ≠ H.objs.size := by rw [hC]; exact Nat.ne_of_lt (Nat.lt_succ_self _)
  have hL : IsL h₄ s₂.heap.objs.size ([] : List Value).toArray := by
    have h1 : H.get? s₂.heap.objs.size = some { cls := .type "list", dict := none, data := .seq ([] : List Value).toArray } := by rw [← hH]; exact Heap.get?_push_size _ rfl
    exact ⟨0, hsb.extBut _ _ hDC (Heap.get?_push_of_some _ h1)⟩
  have I₄ := I₁.grow k14
  have J := I₄.enter hsc hns (repl_unb n) (new_notOwn I₁ hCn) (base_none I₁ hCn)
  have inα : ∀ b, b ∈ α → ∃ o, h₁.get? b = some o := fun b hb => by
    cases q : h₁.get? b with
    | some o => exact ⟨o, rfl⟩
    | none => exact (new_notOwn I₁ q (.inr (.inr hb))).elim
  have nI : ¬ Own ⟨some scope.names, fnm⟩ (compEnvC scope (clOf env scope.names []) H.objs.size env) α h₁.objs.size := by
    rintro (q | ⟨q, _⟩ | q)
    · have : h₁.objs.size = H.objs.size := q
      rw [hC] at this
      exact absurd this (Nat.ne_of_lt (Nat.lt_succ_of_lt hlt))
    · cases q
    · obtain ⟨o, e⟩ := inα _ q
      rw [hIa] at e; cases e
  have nD : ¬ Own ⟨some scope.names, fnm⟩ (compEnvC scope (clOf env scope.names []) H.objs.size env) α s₂.heap.objs.size := by
    rintro (q | ⟨q, _⟩ | q)
    · exact hDC q
    · cases q
    · obtain ⟨o, e⟩ := inα _ q
      rw [hDn] at e; cases e
  have ok₄ := (ok (compEnvC scope (clOf env scope.names []) H.objs.size env) s₂.heap.objs.size (fun b o e q => by
    have q' : b = H.objs.size := q
    rw [q', hCn] at e; cases e) hDn).keep (Ext.grow k24) nI
  have loop : codeAny (model Z.prog Z.w) A (.compLoop (.ListComp elt (⟨t, iter, ifs, 0⟩ :: more) scope pos) 0 (.ref h₁.objs.size) (.ref s₂.heap.objs.size) (compEnvC scope (clOf env scope.names []) H.objs.size env))
      (compPost (model Z.prog Z.w) A NoE use Q (.ref s₂.heap.objs.size) H.objs.size) { s₂ with heap := h₄, toks := s₂.toks + ([] : List (Str × Value)).length } := by
    refine compLoopGo (acc := .nil) (cx := ⟨some scope.names, fnm⟩) (h := h₁) (α := α) (s₁ := { s₂ with heap := h₄, toks := s₂.toks + ([] : List (Str × Value)).length }) hturn ht hb (by simp) hR hA J ok₄ nd1 (base_none I₁ hIa) hIa (vs := []) hL rfl nD (base_none I₁ hDn) (Nat.zero_le _) (ExtD.of (Ext.grow k14)) hk _ fun c' acc' σ' α' h' tk' vs' q J' E' L' V' n' z' => ?_
    obtain ⟨I', E'', nD', nC'⟩ := I₁.leave J' E' hCn hDn fun q => n' (.inr (.inr q))
    obtain ⟨m', hm', _⟩ := J'.fr.ns
    exact hfin acc' σ' α' h' tk' vs' _ _ q I' E'' L' V' hDn nD' hDC hCn nC' (base_none I₁ hCn) ⟨m', hm'⟩
  exact startGo rfl rfl loop (itSelf (s := { s₂ with heap := h₄, toks := s₂.toks + ([] : List (Str × Value)).length }) ok₄ nd1 nd2 loop)
/-- the names go: the list stays -/
theorem afterComp {env : Env} {f : Sl} {σ' : Sto} {α α' : List Addr} {h₁ h' h'' : Heap} {C D : Addr} {vs' : List Value} {acc' : DV} {m : Str → Option Value} (I' : IN Z ⟨none, fnm⟩ env [] f σ' α' h') (E' : Ext ⟨none, fnm⟩ env α h₁ α' h') (L' : IsL h' D vs'.toArray) (V' : VI α' h' vs' acc') (hDC : D ≠ C) (hCn : h₁.get? C = none) (nC : ¬ Own ⟨none, fnm⟩ env α' C) (h0 : Z.h₀.get? C = none)
    (hm : h'.Ns C m) (hs : Heap.SameBut C h' h'') : IN Z ⟨none, fnm⟩ env [] f σ' α' h'' ∧ Ext ⟨none, fnm⟩ env α h₁ α' h'' ∧ IsL h'' D vs'.toArray ∧ VI α' h'' vs' acc' ∧ ImmK h' h'' := by
  have k : ∀ b o, b ≠ C → h'.get? b = some o → h''.get? b = some o := fun b o hb e => hs.extBut b o hb e
  obtain ⟨o', es, ep, e', hd, _⟩ := hm
  have ni : ∀ o, h'.get? C = some o → ¬ Imm o := by
    intro o e
    rw [e'] at e; cases e
    rintro (⟨_, _, q, _⟩ | ⟨_, q, _⟩) <;> (rw [hd] at q; cases q)
  have im : ImmK h' h'' := fun b o e i => k b o (fun q => ni o (q ▸ e) i) e
  refine ⟨I'.turn k h0 nC (I'.notCell e' fun v q => by rw [hd] at q; cases q) ni, E'.turn k hCn, L'.keep fun ob e => k D ob hDC e, V'.imm im, im⟩
theorem SL.comp {elt t iter : PySem.Expr} {p : Pos} {ifs : List PySem.Expr} {more : List Comprehension} {scope : Scope} {pos : Pos} {n : Nat} {gt : GT} {g : GE} {gb : GC} {tm : Value → Env → Sem Fin → Sem Fin} (hsc : scOk fnm scope = true)
    (hturn : ∀ it acc env, compTurn (.ListComp elt (⟨t, iter, ifs, 0⟩ :: more) scope pos) 0 it acc env = turnForm (.ListComp elt (⟨t, iter, ifs, 0⟩ :: more) scope pos) t p 0 tm it acc env) (hs : ∀ env x, foldedSetIterable iter env x = pure x)
    (ht : ST Z ⟨some scope.names, fnm⟩ t gt) (he : SE Z ⟨none, fnm⟩ iter g) (hb : SCt Z ⟨some scope.names, fnm⟩ tm gb) : SL Z ⟨none, fnm⟩ (.ListComp elt (⟨t, iter, ifs, 0⟩ :: more) scope pos) (lComp n gt g gb) := by
  intro m R A env c f σ α s k hR hA I hk Q hQ
  have I := I.anyC (c' := []) rfl
  obtain ⟨s1, s2, s3, s4⟩ := scOk_iff hsc
  have hclos := closure_eq (scope := scope) (env := env) fun y hy e => by
    obtain ⟨j, a, v, _, _, _, ha, _⟩ := freeAt I (s3 y hy e)
    exact ⟨a, ha⟩
  rw [eval_ListComp]
  refine wpAny_comprehension_free (use := none) rfl (hs env) hclos s1 s4 (he hR hA I hk _ fun d σ₁ v α₁ h₁ t₁ k₁ I₁ E₁ V₁ => ?_)
  refine iterGo (s := { s with heap := h₁, toks := t₁ }) I₁ V₁ k₁ _ fun it h₂ k₂ kk ok hdv htup => ?_
  rw [frcL_eq] at k₂
  refine compCore (n := n) (s₂ := { s with heap := h₂, toks := t₁ }) hsc hturn ht hb hR hA I₁ kk ?_ (fun cenv D _ _ => ok _ cenv D) (fun n i z e => by have := htup ⟨n, i, z, e⟩; cases this) (fun n i z e => by have := hdv ⟨n, i, z, e⟩; cases this) k₂ fun acc' σ' α' h' tk' vs' D C q I' E' L' V' hDn nD hDC hCn nC h0 ⟨m', hm'⟩ => ?_
  · obtain ⟨o, _, ho, _⟩ := (ok ⟨none, fnm⟩ env env.locals).fields
    exact Heap.lt_size ho
  · refine ⟨m', hm', fun h'' hs'' => ?_⟩
    obtain ⟨I'', E'', L'', V'', _⟩ := afterComp I' E' L' V' hDC hCn nC h0 hm' hs''
    exact hQ acc' σ' D vs' α' h'' tk' q (I''.anyC rfl) (E₁.trans E'') L'' V'' (E₁.fresh hDn) nD
theorem SL.compL {elt t iter : PySem.Expr} {p : Pos} {ifs : List PySem.Expr} {more : List Comprehension} {scope : Scope} {pos : Pos} {n : Nat} {gt : GT} {g : GE} {gb : GC} {tm : Value → Env → Sem Fin → Sem Fin} (hsc : scOk fnm scope = true)
    (hturn : ∀ it acc env, compTurn (.ListComp elt (⟨t, iter, ifs, 0⟩ :: more) scope pos) 0 it acc env = turnForm (.ListComp elt (⟨t, iter, ifs, 0⟩ :: more) scope pos) t p 0 tm it acc env) (hs : ∀ env x, foldedSetIterable iter env x = pure x)
    (ht : ST Z ⟨some scope.names, fnm⟩ t gt) (he : SL Z ⟨none, fnm⟩ iter g) (hb : SCt Z ⟨some scope.names, fnm⟩ tm gb) : SL Z ⟨none, fnm⟩ (.ListComp elt (⟨t, iter, ifs, 0⟩ :: more) scope pos) (lCompL n gt g gb) := by
  intro m R A env c f σ α s k hR hA I hk Q hQ
  have I := I.anyC (c' := []) rfl
  obtain ⟨s1, s2, s3, s4⟩ := scOk_iff hsc
  have hclos := closure_eq (scope := scope) (env := env) fun y hy e => by
    obtain ⟨j, a, v, _, _, _, ha, _⟩ := freeAt I (s3 y hy e)
    exact ⟨a, ha⟩
  rw [eval_ListComp]
  refine wpAny_comprehension_free (use := none) rfl (hs env) hclos s1 s4 (he hR hA I hk _ fun d σ₁ a vs α₁ h₁ t₁ k₁ I₁ E₁ L₁ V₁ f₁ n₁ => ?_)
  refine iterL (s := { s with heap := h₁, toks := t₁ }) I₁ L₁ V₁ n₁ _ fun h₂ kk ok => ?_
  rw [frcL_eq] at k₁
  obtain ⟨nn, hLa⟩ := L₁
  refine compCore (n := n) (s₂ := { s with heap := h₂, toks := t₁ }) hsc hturn ht hb hR hA I₁ kk ?_ (fun cenv D hc hD => ok _ cenv D ?_ fun q => by subst q; rw [hD] at hLa; cases hLa) (fun n i z e => by cases e) (fun n i z e => by cases e) k₁ fun acc' σ' α' h' tk' vs' D C q I' E' L' V' hDn nD hDC hCn nC h0 ⟨m', hm'⟩ => ?_
  · obtain ⟨o, _, ho, _⟩ := (ok ⟨none, fnm⟩ env env.locals n₁ fun q => n₁ (.inl q)).fields
    exact Heap.lt_size ho
  · rintro (q | ⟨q, _⟩ | q)
    · exact hc a _ hLa q
    · cases q
    · exact n₁ (.inr (.inr q))
  · refine ⟨m', hm', fun h'' hs'' => ?_⟩
    obtain ⟨I'', E'', L'', V'', _⟩ := afterComp I' E' L' V' hDC hCn nC h0 hm' hs''
    exact hQ acc' σ' D vs' α' h'' tk' q (I''.anyC rfl) (E₁.trans E'') L'' V'' (E₁.fresh hDn) nD
end
end Mine

set_option maxRecDepth 100000
namespace Mine
open PySem PySem.W PyProof.Rows PySem.Calls PySem.SeqAt

def swapOk (fnm : List (Str × NameKind)) (scope : Scope) (x : Str) (px pos : Pos) : Bool :=
  fnm.lookup x == some .local && px.line == pos.line && !(scope.names.any fun (n, k) => n == x && (k == .local || k == .cell))
theorem swap_eq {fnm : List (Str × NameKind)} {scope : Scope} {x : Str} {px pos : Pos} {elt : PySem.Expr} {gens : List Comprehension} {l : Nat} {env : Env} (h : swapOk fnm scope x px pos = true) (hk : env.scope.kind = .function) (hf : ∀ x, env.kindOf x = fnm.lookup x) :
    swapsWith (.ListComp elt gens scope pos) (some (.Name x px)) l env = pure true := by
  unfold swapOk at h
  rw [← hf x] at h
  have hb : env.blockKind = .function := by unfold Env.blockKind; rw [hk]; rfl
  show (pure (env.blockKind == .function && env.kindOf x == some .local && px.line == pos.line && !(scope.names.any fun (n, k) => n == x && (k == .local || k == .cell))) : Sem Bool) = pure true
  rw [hb, show (ScopeKind.function == ScopeKind.function) = true from rfl, Bool.true_and, h]
variable {Z : Base}
section
variable {fnm : List (Str × NameKind)}
theorem SS.asgC {x : Str} {px spos : Pos} {elt t iter : PySem.Expr} {p : Pos} {ifs : List PySem.Expr} {more : List Comprehension} {scope : Scope} {pos : Pos} {n j : Nat} {gt : GT} {g : GE} {gb : GC} {tm : Value → Env → Sem Fin → Sem Fin} (hsw : swapOk fnm scope x px pos = true) (hx : slotOf ⟨none, fnm⟩ x = some (.f j)) (hsc : scOk fnm scope = true)
    (hturn : ∀ it acc env, compTurn (.ListComp elt (⟨t, iter, ifs, 0⟩ :: more) scope pos) 0 it acc env = turnForm (.ListComp elt (⟨t, iter, ifs, 0⟩ :: more) scope pos) t p 0 tm it acc env) (hs : ∀ env x, foldedSetIterable iter env x = pure x)
    (ht : ST Z ⟨some scope.names, fnm⟩ t gt) (he : SL Z ⟨none, fnm⟩ iter g) (hb : SCt Z ⟨some scope.names, fnm⟩ tm gb) : SS Z ⟨none, fnm⟩ (.Assign [.Name x px] (.ListComp elt (⟨t, iter, ifs, 0⟩ :: more) scope pos) spos) (sAsg (tF j) (eTrack (lCompL n gt g gb))) := by
  intro m R A env f σ α s kn kr hR hA I hk Q hN hr
  obtain ⟨s1, s2, s3, s4⟩ := scOk_iff hsc
  have hclos := closure_eq (scope := scope) (env := env) fun y hy e => by
    obtain ⟨j, a, v, _, _, _, ha, _⟩ := freeAt I (s3 y hy e)
    exact ⟨a, ha⟩
  rw [exec_Assign_Name_used _ _ _ _ (swap_eq hsw I.fr.kind (I.fr.kf rfl))]
  refine wpAny_bind (wpAny_standAt (wpAny_bind ?_))
  show wpAny _ A (do let _ ← comprehension (.ListComp elt (⟨t, iter, ifs, 0⟩ :: more) scope pos) scope env _ (newList []) false (eval iter env) (some (assign (.Name x px) env))) _ _ s
  refine wpAny_bind (wpAny_mono (wpAny_comprehension_free (use := some (assign (.Name x px) env)) (Q := fun _ s' => Q .next s') rfl (hs env) hclos s1 s4 (he hR hA I hk _ fun d σ₁ a vs α₁ h₁ t₁ k₁ I₁ E₁ L₁ V₁ f₁ n₁ => ?_)) (fun _ s' hq => wpAny_pure (wpAny_pure hq)) fun _ _ e => e)
  refine iterL (s := { s with heap := h₁, toks := t₁ }) I₁ L₁ V₁ n₁ _ fun h₂ kk ok => ?_
  rw [frcL_eq] at k₁
  obtain ⟨nn, hLa⟩ := L₁
  refine compCore (k := fun d σ => ck d <| addO σ (.list d) fun n σ => (fun d σ => tF j d [] f fun _ f => kn f σ) (.loc n) σ) (n := n) (s₂ := { s with heap := h₂, toks := t₁ }) hsc hturn ht hb hR hA I₁ kk ?_ (fun cenv D hc hD => ok _ cenv D ?_ fun q => by subst q; rw [hD] at hLa; cases hLa) (fun n i z e => by cases e) (fun n i z e => by cases e) k₁ fun acc' σ' α' h' tk' vs' D C q I' E' L' V' hDn nD hDC hCn nC h0 ⟨m', hm'⟩ => ?_
  · obtain ⟨o, _, ho, _⟩ := (ok ⟨none, fnm⟩ env env.locals n₁ fun q => n₁ (.inl q)).fields
    exact Heap.lt_size ho
  · rintro (q | ⟨q, _⟩ | q)
    · exact hc a _ hLa q
    · cases q
    · exact n₁ (.inr (.inr q))
  · obtain ⟨gg, q1⟩ := ck_iff q
    rw [addO_eq] at q1
    have I₃ := I'.adopt (o := .list acc') nD (base_none I₁ hDn) ⟨vs', L', V'.ground gg, gg⟩
    have E₃ := E'.adopt hDn
    have V₃ : V (α' ++ [D]) h' (.ref D) (.loc σ'.length) := ⟨D, by rw [← I'.sto.len]; exact List.getElem?_concat_length, rfl⟩
    have nC₃ : ¬ Own ⟨none, fnm⟩ env (α' ++ [D]) C := by
      rintro (q | q | q)
      · exact nC (.inl q)
      · exact nC (.inr (.inl q))
      · rcases List.mem_append.mp q with q | q
        · exact nC (.inr (.inr q))
        · exact hDC (List.mem_singleton.mp q).symm
    show wpAny _ A (assign (.Name x px) env (.ref D)) _ _ _
    refine ST.nmF (Z := Z) (cx := ⟨none, fnm⟩) rfl hx (s := { s with heap := h', toks := tk' }) hA.hd I₃ V₃ q1 _ fun c' f' h₄ t₄ q₄ _ I₄ E₄ => ?_
    obtain ⟨o', es, ep, e', hd, r'⟩ := hm'
    have eC := E₄.keep _ _ e' nC₃
    refine ⟨m', ⟨o', es, ep, eC, hd, r'⟩, fun h₅ hs₅ => ?_⟩
    have k5 : ∀ b o, b ≠ C → h₄.get? b = some o → h₅.get? b = some o := fun b o hb e => hs₅.extBut b o hb e
    have ni : ∀ o, h₄.get? C = some o → ¬ Imm o := by
      intro o e
      rw [eC] at e; cases e
      rintro (⟨_, _, q, _⟩ | ⟨_, q, _⟩) <;> (rw [hd] at q; cases q)
    have I₅ := (I₄.anyC (c' := []) rfl).turn k5 h0 nC₃ (I₄.notCell eC fun v q => by rw [hd] at q; cases q) ni
    exact hN f' _ (α' ++ [D]) h₅ t₄ q₄ I₅ ((E₁.trans (E₃.trans E₄)).turn k5 (E₁.fresh hCn))
end
end Mine

set_option maxRecDepth 100000
namespace Mine
open PySem PySem.W PyProof.Rows PySem.Calls PySem.SeqAt

def isL : PySem.Expr → Bool
  | .List _ _ => true
  | .ListComp .. => true
  | .BinOp l .Add r _ => isL l || isL r
  | .Subscript _ (.Slice ..) _ => true
  | .Call (.Name x _) _ _ _ => x == "sorted" || x == "_law_steps" || x == "_law_laid" || x == "_law_turned"
  | _ => false
theorem sw_two {fnm : List (Str × NameKind)} {a b : Str} {pa pb tp p2 : Pos} {k k2 : Nat} {e1 e2 : PySem.Expr} (h : fnm.lookup a = some .cell) : ∀ env : Env, (∀ x, env.kindOf x = fnm.lookup x) → swappedStores [.Tuple [.Name a pa, .Name b pb] k tp] (.Tuple [e1, e2] k2 p2) env = pure none := by
  intro env hf
  have ha : (env.kindOf a == some NameKind.local) = false := by rw [hf, h]; rfl
  have hn : ∀ l, (([PySem.Expr.Name a pa, .Name b pb].filterMap fun
    | .Name id pos => if env.kindOf id == some .local && pos.line == l then some id else none
    | _ => none) : List Str).length ≠ 2 := by
    intro l
    simp only [List.filterMap_cons, List.filterMap_nil, ha, Bool.false_and, Bool.false_eq_true, if_false]
    split <;> simp
  unfold swappedStores
  dsimp only
  split
  · rfl
  · split
    · rfl
    · rw [if_pos]
      simp only [Bool.or_eq_true, bne_iff_ne, ne_eq]
      exact .inl (hn _)
variable {Z : Base}
namespace W
section
variable {cx : Cx}
theorem trk {e : PySem.Expr} {g : GE} (h : isL e = true) (he : SL Z cx e g) : SE Z cx e (eTrack g) := SE.trk he
theorem lenL {pos p1 : Pos} {x : Str} {e : PySem.Expr} {g : GE} (hg : globOf cx x = true) (hx : x = "len") (h : isL e = true) (hs : NS e) (he : SL Z cx e g) : SE Z cx (.Call (.Name x p1) [e] [] pos) (eLenL g) := SE.lenL hg hx hs he
theorem tupL {pos p1 : Pos} {x : Str} {e : PySem.Expr} {g : GE} (hg : globOf cx x = true) (hx : x = "tuple") (h : isL e = true) (hs : NS e) (he : SL Z cx e g) : SE Z cx (.Call (.Name x p1) [e] [] pos) (eTupL g) := SE.tupL hg hx hs he
theorem maxL {pos p1 : Pos} {x : Str} {e : PySem.Expr} {g : GE} (hg : globOf cx x = true) (hx : x = "max") (h : isL e = true) (hs : NS e) (he : SL Z cx e g) : SE Z cx (.Call (.Name x p1) [e] [] pos) (eMaxL g) := SE.maxL hg hx hs he
theorem sortL {pos p1 : Pos} {x : Str} {e : PySem.Expr} {g : GE} (hg : globOf cx x = true) (hx : x = "sorted") (h : isL e = true) (hs : NS e) (he : SL Z cx e g) : SL Z cx (.Call (.Name x p1) [e] [] pos) (lSortL g) := SL.sortL hg hx hs he
theorem addEL {pos : Pos} {l r : PySem.Expr} {gl gr : GE} (h : isL r = true) (hl : SE Z cx l gl) (hr : SL Z cx r gr) : SL Z cx (.BinOp l .Add r pos) (lAddEL gl gr) := SL.addEL hl hr
theorem addLE {pos : Pos} {l r : PySem.Expr} {gl gr : GE} (h : isL l = true) (hl : SL Z cx l gl) (hr : SE Z cx r gr) : SL Z cx (.BinOp l .Add r pos) (lAddLE gl gr) := SL.addLE hl hr
theorem eqL {pos : Pos} {l r : PySem.Expr} {gl gr : GE} (h1 : isL l = true) (h2 : isL r = true) (hm : ∀ op, behindInMarks op r = false) (hl : SL Z cx l gl) (hr : SL Z cx r gr) : SB Z cx (.Compare l [.Eq] [r] pos) (bEq gl gr) := SB.eqL hm hl hr
theorem neL {pos : Pos} {l r : PySem.Expr} {gl gr : GE} (h1 : isL l = true) (h2 : isL r = true) (hm : ∀ op, behindInMarks op r = false) (hl : SL Z cx l gl) (hr : SL Z cx r gr) : SB Z cx (.Compare l [.NotEq] [r] pos) (bNe gl gr) := SB.neL hm hl hr
theorem eqEL {pos : Pos} {l r : PySem.Expr} {gl gr : GE} (h2 : isL r = true) (hm : ∀ op, behindInMarks op r = false) (hl : SE Z cx l gl) (hr : SL Z cx r gr) : SB Z cx (.Compare l [.Eq] [r] pos) (bEqEL gl gr) := SB.eqEL hm hl hr
theorem neEL {pos : Pos} {l r : PySem.Expr} {gl gr : GE} (h2 : isL r = true) (hm : ∀ op, behindInMarks op r = false) (hl : SE Z cx l gl) (hr : SL Z cx r gr) : SB Z cx (.Compare l [.NotEq] [r] pos) (bNeEL gl gr) := SB.neEL hm hl hr
theorem inL {pos : Pos} {l r : PySem.Expr} {gl gr : GE} (h2 : isL r = true) (hm : ∀ op, behindInMarks op r = false) (hl : SE Z cx l gl) (hr : SL Z cx r gr) : SB Z cx (.Compare l [.In] [r] pos) (bInL gl gr) := SB.inL hm hl hr
theorem notInL {pos : Pos} {l r : PySem.Expr} {gl gr : GE} (h2 : isL r = true) (hm : ∀ op, behindInMarks op r = false) (hl : SE Z cx l gl) (hr : SL Z cx r gr) : SB Z cx (.Compare l [.NotIn] [r] pos) (bNotInL gl gr) := SB.notInL hm hl hr
theorem forL {tgt iter : PySem.Expr} {body : List Stmt} {pos : Pos} {gt : GT} {g : GE} {gb : GS} (h : isL iter = true) (hn : cx.cn = none) (hs : ∀ env x, foldedSetIterable iter env x = pure x) (ht : ST Z cx tgt gt) (he : SL Z cx iter g) (hb : SSs Z cx body gb) : SS Z cx (.For tgt iter body [] pos) (sForL gt g gb) := SS.forL hn hs ht he hb
end
section
variable {fnm : List (Str × NameKind)}
theorem compL1 {elt t iter : PySem.Expr} {scope : Scope} {pos : Pos} {n : Nat} {gt : GT} {g ge : GE} (h : isL iter = true) (hsc : scOk fnm scope = true) (hn : scope.names.length = n) (hs : ∀ env x, foldedSetIterable iter env x = pure x)
    (ht : ST Z ⟨some scope.names, fnm⟩ t gt) (he : SL Z ⟨none, fnm⟩ iter g) (hb : SE Z ⟨some scope.names, fnm⟩ elt ge) : SL Z ⟨none, fnm⟩ (.ListComp elt [⟨t, iter, [], 0⟩] scope pos) (lCompL n gt g (cElt ge)) := SL.compL hsc (turn_elt elt t iter scope pos) hs ht he (SCt.elt hb)
theorem compL2 {elt t iter b : PySem.Expr} {scope : Scope} {pos : Pos} {n : Nat} {gt : GT} {g ge : GE} {gb : GB} (h : isL iter = true) (hsc : scOk fnm scope = true) (hn : scope.names.length = n) (hs : ∀ env x, foldedSetIterable iter env x = pure x)
    (ht : ST Z ⟨some scope.names, fnm⟩ t gt) (he : SL Z ⟨none, fnm⟩ iter g) (hb : SB Z ⟨some scope.names, fnm⟩ b gb) (hE : SE Z ⟨some scope.names, fnm⟩ elt ge) : SL Z ⟨none, fnm⟩ (.ListComp elt [⟨t, iter, [b], 0⟩] scope pos) (lCompL n gt g (cIf gb (cElt ge))) := SL.compL hsc (turn_if elt t iter b scope pos) hs ht he (SCt.ifs hb (SCt.elt hE))
theorem comp1 {elt t iter : PySem.Expr} {scope : Scope} {pos : Pos} {n : Nat} {gt : GT} {g ge : GE} (hsc : scOk fnm scope = true) (hn : scope.names.length = n) (hs : ∀ env x, foldedSetIterable iter env x = pure x)
    (ht : ST Z ⟨some scope.names, fnm⟩ t gt) (he : SE Z ⟨none, fnm⟩ iter g) (hb : SE Z ⟨some scope.names, fnm⟩ elt ge) : SL Z ⟨none, fnm⟩ (.ListComp elt [⟨t, iter, [], 0⟩] scope pos) (lComp n gt g (cElt ge)) := SL.comp hsc (turn_elt elt t iter scope pos) hs ht he (SCt.elt hb)
theorem comp2 {elt t iter b : PySem.Expr} {scope : Scope} {pos : Pos} {n : Nat} {gt : GT} {g ge : GE} {gb : GB} (hsc : scOk fnm scope = true) (hn : scope.names.length = n) (hs : ∀ env x, foldedSetIterable iter env x = pure x)
    (ht : ST Z ⟨some scope.names, fnm⟩ t gt) (he : SE Z ⟨none, fnm⟩ iter g) (hb : SB Z ⟨some scope.names, fnm⟩ b gb) (hE : SE Z ⟨some scope.names, fnm⟩ elt ge) : SL Z ⟨none, fnm⟩ (.ListComp elt [⟨t, iter, [b], 0⟩] scope pos) (lComp n gt g (cIf gb (cElt ge))) := SL.comp hsc (turn_if elt t iter b scope pos) hs ht he (SCt.ifs hb (SCt.elt hE))
theorem comp3 {elt t iter t2 iter2 : PySem.Expr} {scope : Scope} {pos : Pos} {n : Nat} {gt gt2 : GT} {g g2 ge : GE} (hsc : scOk fnm scope = true) (hn : scope.names.length = n) (hs : ∀ env x, foldedSetIterable iter env x = pure x) (hs2 : ∀ env x, foldedSetIterable iter2 env x = pure x)
    (ht : ST Z ⟨some scope.names, fnm⟩ t gt) (he : SE Z ⟨none, fnm⟩ iter g) (ht2 : ST Z ⟨some scope.names, fnm⟩ t2 gt2) (he2 : SE Z ⟨some scope.names, fnm⟩ iter2 g2) (hE : SE Z ⟨some scope.names, fnm⟩ elt ge) :
    SL Z ⟨none, fnm⟩ (.ListComp elt [⟨t, iter, [], 0⟩, ⟨t2, iter2, [], 0⟩] scope pos) (lComp n gt g (cFor gt2 g2 (cElt ge))) :=
  SL.comp hsc (turn_for elt t iter t2 iter2 scope pos) hs ht he (SCt.for rfl rfl (turn_elt2 elt t iter t2 iter2 scope pos) hs2 ht2 he2 (SCt.elt hE) (by simp))
theorem asgC {x : Str} {px spos : Pos} {elt t iter b : PySem.Expr} {scope : Scope} {pos : Pos} {n j : Nat} {gt : GT} {g ge : GE} {gb : GB} (hsw : swapOk fnm scope x px pos = true) (hx : slotOf ⟨none, fnm⟩ x = some (.f j)) (hsc : scOk fnm scope = true) (hn : scope.names.length = n) (hs : ∀ env x, foldedSetIterable iter env x = pure x)
    (ht : ST Z ⟨some scope.names, fnm⟩ t gt) (he : SL Z ⟨none, fnm⟩ iter g) (hb : SB Z ⟨some scope.names, fnm⟩ b gb) (hE : SE Z ⟨some scope.names, fnm⟩ elt ge) : SS Z ⟨none, fnm⟩ (.Assign [.Name x px] (.ListComp elt [⟨t, iter, [b], 0⟩] scope pos) spos) (sAsg (tF j) (eTrack (lCompL n gt g (cIf gb (cElt ge))))) :=
  SS.asgC hsw hx hsc (turn_if elt t iter b scope pos) hs ht he (SCt.ifs hb (SCt.elt hE))
end
end W

def defAt : Nat → List Stmt → List Stmt × Scope
  | 0, .FunctionDef _ _ b _ _ _ sc _ _ _ :: _ => (b, sc)
  | n + 1, _ :: r => defAt n r
  | _, _ => ([], { kind := .module, names := [], isGenerator := false, isCoroutine := false })
abbrev topBody : List Stmt := PySem.Challenge.pw_hv0001_01.main.body
def defOf (n : Nat) : List Stmt × Scope := defAt n topBody
end Mine

set_option maxRecDepth 100000
namespace Mine
open PySem PySem.W


structure XE (Z : Base) (cx : Cx) (e : PySem.Expr) (g : GE) : Prop where
  h : SE Z cx e g
structure XL (Z : Base) (cx : Cx) (e : PySem.Expr) (g : GE) : Prop where
  h : SL Z cx e g
structure XB (Z : Base) (cx : Cx) (e : PySem.Expr) (g : GB) : Prop where
  h : SB Z cx e g
structure XEs (Z : Base) (cx : Cx) (e : List PySem.Expr) (g : GE) : Prop where
  h : SEs Z cx e g
structure XS (Z : Base) (cx : Cx) (e : Stmt) (g : GS) : Prop where
  h : SS Z cx e g
structure XSs (Z : Base) (cx : Cx) (e : List Stmt) (g : GS) : Prop where
  h : SSs Z cx e g
structure XT (Z : Base) (cx : Cx) (e : PySem.Expr) (g : GT) : Prop where
  h : ST Z cx e g
structure XOp (Z : Base) (cx : Cx) (o : BoolOp) (e : List PySem.Expr) (g : GB) : Prop where
  h : SOp Z cx o e g
section
variable {Z : Base} {cx : Cx} {fnm : List (Str × NameKind)}
theorem X.SE_dead {e : PySem.Expr} : XE Z cx e eDead := ⟨SE.dead ⟩
theorem X.SE_con {cc : Const} {kk : Nat} {pos : Pos} {d : DV} (hd : conD cc = some d) : XE Z cx (.Constant cc kk pos) (eCon d) := ⟨SE.con hd⟩
theorem X.SE_nmC {x : Str} {pos : Pos} {n : Nat} (hx : slotOf cx x = some (.c n)) (hd : (x == ("__debug__" : Str)) = false) : XE Z cx (.Name x pos) (eNmC n) := ⟨SE.nmC hx hd⟩
theorem X.SE_nmF {x : Str} {pos : Pos} {n : Nat} (hx : slotOf cx x = some (.f n)) (hd : (x == ("__debug__" : Str)) = false) : XE Z cx (.Name x pos) (eNmF n) := ⟨SE.nmF hx hd⟩
theorem X.SE_tup {es : List PySem.Expr} {kk : Nat} {pos : Pos} {g : GE} (hes : XEs Z cx es g) : XE Z cx (.Tuple es kk pos) g := ⟨SE.tup hes.h⟩
theorem X.SEs_nil  : XEs Z cx [] esNil := ⟨SEs.nil ⟩
theorem X.SEs_cons {e : PySem.Expr} {es : List PySem.Expr} {g gs : GE} (hs : NS e) (he : XE Z cx e g) (hes : XEs Z cx es gs) (hl : es.length < 20) : XEs Z cx (e :: es) (esCons g gs) := ⟨SEs.cons hs he.h hes.h hl⟩
theorem X.SL_disp {es : List PySem.Expr} {pos : Pos} {g : GE} (hes : XEs Z cx es g) : XL Z cx (.List es pos) g := ⟨SL.disp hes.h⟩
theorem X.SE_sub {pos : Pos} {l r : PySem.Expr} {gl gr : GE} (hl : XE Z cx l gl) (hr : XE Z cx r gr) : XE Z cx (.BinOp l .Sub r pos) (eSub gl gr) := ⟨SE.sub hl.h hr.h⟩
theorem X.SE_mul {pos : Pos} {l r : PySem.Expr} {gl gr : GE} (hl : XE Z cx l gl) (hr : XE Z cx r gr) : XE Z cx (.BinOp l .Mult r pos) (eMul gl gr) := ⟨SE.mul hl.h hr.h⟩
theorem X.SE_div {pos : Pos} {l r : PySem.Expr} {gl gr : GE} (hl : XE Z cx l gl) (hr : XE Z cx r gr) : XE Z cx (.BinOp l .FloorDiv r pos) (eDiv gl gr) := ⟨SE.div hl.h hr.h⟩
theorem X.SE_mod {pos : Pos} {l r : PySem.Expr} {gl gr : GE} (hl : XE Z cx l gl) (hr : XE Z cx r gr) : XE Z cx (.BinOp l .Mod r pos) (eMod gl gr) := ⟨SE.mod hl.h hr.h⟩
theorem X.SE_add {pos : Pos} {l r : PySem.Expr} {gl gr : GE} (hl : XE Z cx l gl) (hr : XE Z cx r gr) : XE Z cx (.BinOp l .Add r pos) (eAdd gl gr) := ⟨SE.add hl.h hr.h⟩
theorem X.SE_lenE {pos p1 : Pos} {x : Str} {e : PySem.Expr} {g : GE} (hg : globOf cx x = true) (hx : x = "len") (hs : NS e) (he : XE Z cx e g) : XE Z cx (.Call (.Name x p1) [e] [] pos) (eLenE g) := ⟨SE.lenE hg hx hs he.h⟩
theorem X.SE_rng1 {pos p1 : Pos} {x : Str} {e : PySem.Expr} {g : GE} (hg : globOf cx x = true) (hx : x = "range") (hs : NS e) (he : XE Z cx e g) : XE Z cx (.Call (.Name x p1) [e] [] pos) (eRng1 g) := ⟨SE.rng1 hg hx hs he.h⟩
theorem X.SE_rng2 {pos p1 : Pos} {x : Str} {a b : PySem.Expr} {ga gb : GE} (hg : globOf cx x = true) (hx : x = "range") (hs : NS a) (hs' : NS b) (ha : XE Z cx a ga) (hb : XE Z cx b gb) : XE Z cx (.Call (.Name x p1) [a, b] [] pos) (eRng2 ga gb) := ⟨SE.rng2 hg hx hs hs' ha.h hb.h⟩
theorem X.SE_min {pos p1 : Pos} {x : Str} {a b : PySem.Expr} {ga gb : GE} (hg : globOf cx x = true) (hx : x = "min") (hs : NS a) (hs' : NS b) (ha : XE Z cx a ga) (hb : XE Z cx b gb) : XE Z cx (.Call (.Name x p1) [a, b] [] pos) (eMin ga gb) := ⟨SE.min hg hx hs hs' ha.h hb.h⟩
theorem X.SB_eq {pos : Pos} {l r : PySem.Expr} {gl gr : GE} (hm : ∀ op, behindInMarks op r = false) (hl : XE Z cx l gl) (hr : XE Z cx r gr) : XB Z cx (.Compare l [.Eq] [r] pos) (bEq gl gr) := ⟨SB.eq hm hl.h hr.h⟩
theorem X.SB_ne {pos : Pos} {l r : PySem.Expr} {gl gr : GE} (hm : ∀ op, behindInMarks op r = false) (hl : XE Z cx l gl) (hr : XE Z cx r gr) : XB Z cx (.Compare l [.NotEq] [r] pos) (bNe gl gr) := ⟨SB.ne hm hl.h hr.h⟩
theorem X.SB_lt {pos : Pos} {l r : PySem.Expr} {gl gr : GE} (hm : ∀ op, behindInMarks op r = false) (hl : XE Z cx l gl) (hr : XE Z cx r gr) : XB Z cx (.Compare l [.Lt] [r] pos) (bLt gl gr) := ⟨SB.lt hm hl.h hr.h⟩
theorem X.SB_gt {pos : Pos} {l r : PySem.Expr} {gl gr : GE} (hm : ∀ op, behindInMarks op r = false) (hl : XE Z cx l gl) (hr : XE Z cx r gr) : XB Z cx (.Compare l [.Gt] [r] pos) (bGt gl gr) := ⟨SB.gt hm hl.h hr.h⟩
theorem X.SB_notIn {pos : Pos} {l r : PySem.Expr} {gl gr : GE} (hm : ∀ op, behindInMarks op r = false) (hl : XE Z cx l gl) (hr : XE Z cx r gr) : XB Z cx (.Compare l [.NotIn] [r] pos) (bNotIn gl gr) := ⟨SB.notIn hm hl.h hr.h⟩
theorem X.SB_is {pos : Pos} {l r : PySem.Expr} {gl gr : GE} (hm : ∀ op, behindInMarks op r = false) (hl : XE Z cx l gl) (hr : XE Z cx r gr) : XB Z cx (.Compare l [.Is] [r] pos) (bIs gl gr) := ⟨SB.is hm hl.h hr.h⟩
theorem X.SB_val {e : PySem.Expr} {g : GE} (hv : ∀ env whole, isTrue e env whole = (do let v ← whole; standAt e.pos; holding [v] (truthy v))) (he : XE Z cx e g) : XB Z cx e (bVal g) := ⟨SB.val hv he.h⟩
theorem X.SOr_nil  : XOp Z cx .Or [] bFalse := ⟨SOr.nil ⟩
theorem X.SOr_cons {e : PySem.Expr} {es : List PySem.Expr} {b r : GB} (he : XB Z cx e b) (hes : XOp Z cx .Or es r) : XOp Z cx .Or (e :: es) (bOr b r) := ⟨SOr.cons he.h hes.h⟩
theorem X.SAnd_nil  : XOp Z cx .And [] bTrue := ⟨SAnd.nil ⟩
theorem X.SAnd_cons {e : PySem.Expr} {es : List PySem.Expr} {b r : GB} (he : XB Z cx e b) (hes : XOp Z cx .And es r) : XOp Z cx .And (e :: es) (bAnd b r) := ⟨SAnd.cons he.h hes.h⟩
theorem X.SB_or {pos : Pos} {es : List PySem.Expr} {g : GB} (h : XOp Z cx .Or es g) : XB Z cx (.BoolOp .Or es pos) g := ⟨SB.or h.h⟩
theorem X.SB_and {pos : Pos} {es : List PySem.Expr} {g : GB} (h : XOp Z cx .And es g) : XB Z cx (.BoolOp .And es pos) g := ⟨SB.and h.h⟩
theorem X.SE_ite {pos : Pos} {t a b : PySem.Expr} {gt : GB} {ga gb : GE} (ht : XB Z cx t gt) (ha : XE Z cx a ga) (hb : XE Z cx b gb) : XE Z cx (.IfExp t a b pos) (eIte gt ga gb) := ⟨SE.ite ht.h ha.h hb.h⟩
theorem X.SE_subs {pos : Pos} {o i : PySem.Expr} {go gi : GE} (hs : ∀ x y, subscripted i false x y = operate [x, y] (getItem x y)) (ho : XE Z cx o go) (hi : XE Z cx i gi) : XE Z cx (.Subscript o i pos) (eSubs go gi) := ⟨SE.subs hs ho.h hi.h⟩
theorem X.SE_isTup {pos p1 p2 : Pos} {x y : Str} {e : PySem.Expr} {g : GE} (hg : globOf cx x = true) (hg' : globOf cx y = true) (hx : x = "isinstance") (hy : y = "tuple") (hs : NS e) (he : XE Z cx e g) : XE Z cx (.Call (.Name x p1) [e, .Name y p2] [] pos) (eIsTup g) := ⟨SE.isTup hg hg' hx hy hs he.h⟩
theorem X.SE_dct0 {pos : Pos} : XE Z cx (.Dict [] [] pos) eDct0 := ⟨SE.dct0 ⟩
theorem X.SE_dct1 {pos : Pos} {a b : PySem.Expr} {ga gb : GE} (ha : XE Z cx a ga) (hb : XE Z cx b gb) : XE Z cx (.Dict [some a] [b] pos) (eDct1 ga gb) := ⟨SE.dct1 ha.h hb.h⟩
theorem X.SE_append {pos apos : Pos} {o a : PySem.Expr} {name : Str} {go ga : GE} (hb : ∀ nm env, attributeBase o nm env (eval o env) = eval o env) (hline : (apos.endLine == pos.line) = true) (hn : name = "append") (hs : NS a) (ho : XE Z cx o go) (ha : XE Z cx a ga) : XE Z cx (.Call (.Attribute o name apos) [a] [] pos) (mAppend go ga) := ⟨SE.append hb hline hn hs ho.h ha.h⟩
theorem X.SE_insert {pos apos : Pos} {o a b : PySem.Expr} {name : Str} {go ga gb : GE} (hb : ∀ nm env, attributeBase o nm env (eval o env) = eval o env) (hline : (apos.endLine == pos.line) = true) (hn : name = "insert") (hs : NS a) (hs' : NS b) (ho : XE Z cx o go) (ha : XE Z cx a ga) (hb' : XE Z cx b gb) : XE Z cx (.Call (.Attribute o name apos) [a, b] [] pos) (mInsert go ga gb) := ⟨SE.insert hb hline hn hs hs' ho.h ha.h hb'.h⟩
theorem X.SE_get2 {pos apos : Pos} {o a b : PySem.Expr} {name : Str} {go ga gb : GE} (hb : ∀ nm env, attributeBase o nm env (eval o env) = eval o env) (hline : (apos.endLine == pos.line) = true) (hn : name = "get") (hs : NS a) (hs' : NS b) (ho : XE Z cx o go) (ha : XE Z cx a ga) (hb' : XE Z cx b gb) : XE Z cx (.Call (.Attribute o name apos) [a, b] [] pos) (mGet2 go ga gb) := ⟨SE.get2 hb hline hn hs hs' ho.h ha.h hb'.h⟩
theorem X.SE_items {pos apos : Pos} {o : PySem.Expr} {name : Str} {go : GE} (hb : ∀ nm env, attributeBase o nm env (eval o env) = eval o env) (hline : (apos.endLine == pos.line) = true) (hn : name = "items") (ho : XE Z cx o go) : XE Z cx (.Call (.Attribute o name apos) [] [] pos) (mItems go) := ⟨SE.items hb hline hn ho.h⟩
theorem X.SE_values {pos apos : Pos} {o : PySem.Expr} {name : Str} {go : GE} (hb : ∀ nm env, attributeBase o nm env (eval o env) = eval o env) (hline : (apos.endLine == pos.line) = true) (hn : name = "values") (ho : XE Z cx o go) : XE Z cx (.Call (.Attribute o name apos) [] [] pos) (mValues go) := ⟨SE.values hb hline hn ho.h⟩
theorem X.SB_isIn {pos : Pos} {l r : PySem.Expr} {gl gr : GE} (hm : ∀ op, behindInMarks op r = false) (hl : XE Z cx l gl) (hr : XE Z cx r gr) : XB Z cx (.Compare l [.In] [r] pos) (bIn gl gr) := ⟨SB.isIn hm hl.h hr.h⟩
theorem X.SL_sortE {pos p1 : Pos} {x : Str} {e : PySem.Expr} {g : GE} (hg : globOf cx x = true) (hx : x = "sorted") (hs : NS e) (he : XE Z cx e g) : XL Z cx (.Call (.Name x p1) [e] [] pos) (lSortE g) := ⟨SL.sortE hg hx hs he.h⟩
theorem X.SL_slc {pos p2 : Pos} {o lo : PySem.Expr} {go gi : GE} (ht : ∀ x r, letTemporaryGo o x r = pure ()) (ho : XE Z cx o go) (hi : XE Z cx lo gi) : XL Z cx (.Subscript o (.Slice (some lo) none none p2) pos) (lSlc go gi) := ⟨SL.slc ht ho.h hi.h⟩
theorem X.SE_call {pos p1 : Pos} {x : Str} {e : PySem.Expr} {es : List PySem.Expr} {n : Nat} {gs : GE} (hg : globOf cx x = true) (hx : at? defs x = some n) (hd : (x == ("__debug__" : Str)) = false) (hes : XEs Z cx (e :: es) gs) : XE Z cx (.Call (.Name x p1) (e :: es) [] pos) (eCall n gs) := ⟨SE.call hg hx hd hes.h⟩
theorem X.SL_call {pos p1 : Pos} {x : Str} {e : PySem.Expr} {es : List PySem.Expr} {n : Nat} {gs : GE} (hg : globOf cx x = true) (hx : at? defs x = some n) (hd : (x == ("__debug__" : Str)) = false) (hes : XEs Z cx (e :: es) gs) : XL Z cx (.Call (.Name x p1) (e :: es) [] pos) (lCall n gs) := ⟨SL.call hg hx hd hes.h⟩
theorem X.ST_nmC {x : Str} {pos : Pos} {n : Nat} (hx : slotOf cx x = some (.c n)) : XT Z cx (.Name x pos) (tC n) := ⟨ST.nmC hx⟩
theorem X.ST_nmF {x : Str} {pos : Pos} {n : Nat} (hn : cx.cn = none) (hx : slotOf cx x = some (.f n)) : XT Z cx (.Name x pos) (tF n) := ⟨ST.nmF hn hx⟩
theorem X.ST_tup {a b : PySem.Expr} {kk : Nat} {pos : Pos} {ga gb : GT} (hs : ∀ env, assignEach [a, b] env = [(false, assign a env), (false, assign b env)]) (ha : XT Z cx a ga) (hb : XT Z cx b gb) : XT Z cx (.Tuple [a, b] kk pos) (tTup ga gb) := ⟨ST.tup hs ha.h hb.h⟩
theorem X.SS_dead {st : Stmt} : XS Z cx st sDead := ⟨SS.dead ⟩
theorem X.SSs_nil  : XSs Z cx [] sNil := ⟨SSs.nil ⟩
theorem X.SSs_cons {a : Stmt} {b : List Stmt} {ga gb : GS} (ha : XS Z cx a ga) (hb : XSs Z cx b gb) : XSs Z cx (a :: b) (sCons ga gb) := ⟨SSs.cons ha.h hb.h⟩
theorem X.SS_ret {e : PySem.Expr} {pos : Pos} {g : GE} (he : XE Z cx e g) : XS Z cx (.Return (some e) pos) (sRet g) := ⟨SS.ret he.h⟩
theorem X.SS_exp {e : PySem.Expr} {pos : Pos} {g : GE} (hs : ∀ env, swapsWith e none pos.line env = pure false) (he : XE Z cx e g) : XS Z cx (.Expr e pos) (sExp g) := ⟨SS.exp hs he.h⟩
theorem X.SS_ife {t : PySem.Expr} {a b : List Stmt} {pos : Pos} {gt : GB} {ga gb : GS} (ht : XB Z cx t gt) (ha : XSs Z cx a ga) (hb : XSs Z cx b gb) : XS Z cx (.If t a b pos) (sIf gt ga gb) := ⟨SS.ife ht.h ha.h hb.h⟩
theorem X.SS_asg {t e : PySem.Expr} {pos : Pos} {gt : GT} {g : GE} (hn : cx.cn = none) (hs : ∀ env, swapsWithSole [t] e pos.line env = pure false) (hw : ∀ env : Env, (∀ x, env.kindOf x = cx.fnm.lookup x) → swappedStores [t] e env = pure none) (ha : ∀ env, assignEach [t] env = [(false, assign t env)]) (ht : XT Z cx t gt) (he : XE Z cx e g) : XS Z cx (.Assign [t] e pos) (sAsg gt g) := ⟨SS.asg hn hs hw ha ht.h he.h⟩
theorem X.SS_setI {o i e : PySem.Expr} {p1 pos : Pos} {go gi g : GE} (hs : ∀ env, swapsWith e (some (.Subscript o i p1)) pos.line env = pure false) (ho : XE Z cx o go) (hi : XE Z cx i gi) (he : XE Z cx e g) : XS Z cx (.Assign [.Subscript o i p1] e pos) (sSetI go gi g) := ⟨SS.setI hs ho.h hi.h he.h⟩
theorem X.SS_augI {o : PySem.Expr} {x : Str} {px p1 pos : Pos} {e : PySem.Expr} {go gi g : GE} (ho : XE Z cx o go) (hi : XE Z cx (.Name x px) gi) (he : XE Z cx e g) : XS Z cx (.AugAssign (.Subscript o (.Name x px) p1) .Add e pos) (sAugI go gi g) := ⟨SS.augI ho.h hi.h he.h⟩
theorem X.SS_augN {x : Str} {p1 pos : Pos} {e : PySem.Expr} {j : Nat} {g : GE} (hn : cx.cn = none) (hx : slotOf cx x = some (.f j)) (he : XE Z cx e g) : XS Z cx (.AugAssign (.Name x p1) .Add e pos) (sAugN j g) := ⟨SS.augN hn hx he.h⟩
theorem X.SS_whl {t : PySem.Expr} {a : List Stmt} {pos : Pos} {gt : GB} {ga : GS} (ht : XB Z cx t gt) (ha : XSs Z cx a ga) : XS Z cx (.While t a [] pos) (sWhl gt ga) := ⟨SS.whl ht.h ha.h⟩
theorem X.SS_for {tgt iter : PySem.Expr} {body : List Stmt} {pos : Pos} {gt : GT} {g : GE} {gb : GS} (hn : cx.cn = none) (hs : ∀ env x, foldedSetIterable iter env x = pure x) (ht : XT Z cx tgt gt) (he : XE Z cx iter g) (hb : XSs Z cx body gb) : XS Z cx (.For tgt iter body [] pos) (sFor (isTupE tgt) gt g gb) := ⟨SS.for hn hs ht.h he.h hb.h⟩
theorem X.W_trk {e : PySem.Expr} {g : GE} (h : isL e = true) (he : XL Z cx e g) : XE Z cx e (eTrack g) := ⟨W.trk h he.h⟩
theorem X.W_lenL {pos p1 : Pos} {x : Str} {e : PySem.Expr} {g : GE} (hg : globOf cx x = true) (hx : x = "len") (h : isL e = true) (hs : NS e) (he : XL Z cx e g) : XE Z cx (.Call (.Name x p1) [e] [] pos) (eLenL g) := ⟨W.lenL hg hx h hs he.h⟩
theorem X.W_tupL {pos p1 : Pos} {x : Str} {e : PySem.Expr} {g : GE} (hg : globOf cx x = true) (hx : x = "tuple") (h : isL e = true) (hs : NS e) (he : XL Z cx e g) : XE Z cx (.Call (.Name x p1) [e] [] pos) (eTupL g) := ⟨W.tupL hg hx h hs he.h⟩
theorem X.W_maxL {pos p1 : Pos} {x : Str} {e : PySem.Expr} {g : GE} (hg : globOf cx x = true) (hx : x = "max") (h : isL e = true) (hs : NS e) (he : XL Z cx e g) : XE Z cx (.Call (.Name x p1) [e] [] pos) (eMaxL g) := ⟨W.maxL hg hx h hs he.h⟩
theorem X.W_sortL {pos p1 : Pos} {x : Str} {e : PySem.Expr} {g : GE} (hg : globOf cx x = true) (hx : x = "sorted") (h : isL e = true) (hs : NS e) (he : XL Z cx e g) : XL Z cx (.Call (.Name x p1) [e] [] pos) (lSortL g) := ⟨W.sortL hg hx h hs he.h⟩
theorem X.W_addEL {pos : Pos} {l r : PySem.Expr} {gl gr : GE} (h : isL r = true) (hl : XE Z cx l gl) (hr : XL Z cx r gr) : XL Z cx (.BinOp l .Add r pos) (lAddEL gl gr) := ⟨W.addEL h hl.h hr.h⟩
theorem X.W_addLE {pos : Pos} {l r : PySem.Expr} {gl gr : GE} (h : isL l = true) (hl : XL Z cx l gl) (hr : XE Z cx r gr) : XL Z cx (.BinOp l .Add r pos) (lAddLE gl gr) := ⟨W.addLE h hl.h hr.h⟩
theorem X.W_eqL {pos : Pos} {l r : PySem.Expr} {gl gr : GE} (h1 : isL l = true) (h2 : isL r = true) (hm : ∀ op, behindInMarks op r = false) (hl : XL Z cx l gl) (hr : XL Z cx r gr) : XB Z cx (.Compare l [.Eq] [r] pos) (bEq gl gr) := ⟨W.eqL h1 h2 hm hl.h hr.h⟩
theorem X.W_neL {pos : Pos} {l r : PySem.Expr} {gl gr : GE} (h1 : isL l = true) (h2 : isL r = true) (hm : ∀ op, behindInMarks op r = false) (hl : XL Z cx l gl) (hr : XL Z cx r gr) : XB Z cx (.Compare l [.NotEq] [r] pos) (bNe gl gr) := ⟨W.neL h1 h2 hm hl.h hr.h⟩
theorem X.W_eqEL {pos : Pos} {l r : PySem.Expr} {gl gr : GE} (h2 : isL r = true) (hm : ∀ op, behindInMarks op r = false) (hl : XE Z cx l gl) (hr : XL Z cx r gr) : XB Z cx (.Compare l [.Eq] [r] pos) (bEqEL gl gr) := ⟨W.eqEL h2 hm hl.h hr.h⟩
theorem X.W_neEL {pos : Pos} {l r : PySem.Expr} {gl gr : GE} (h2 : isL r = true) (hm : ∀ op, behindInMarks op r = false) (hl : XE Z cx l gl) (hr : XL Z cx r gr) : XB Z cx (.Compare l [.NotEq] [r] pos) (bNeEL gl gr) := ⟨W.neEL h2 hm hl.h hr.h⟩
theorem X.W_inL {pos : Pos} {l r : PySem.Expr} {gl gr : GE} (h2 : isL r = true) (hm : ∀ op, behindInMarks op r = false) (hl : XE Z cx l gl) (hr : XL Z cx r gr) : XB Z cx (.Compare l [.In] [r] pos) (bInL gl gr) := ⟨W.inL h2 hm hl.h hr.h⟩
theorem X.W_notInL {pos : Pos} {l r : PySem.Expr} {gl gr : GE} (h2 : isL r = true) (hm : ∀ op, behindInMarks op r = false) (hl : XE Z cx l gl) (hr : XL Z cx r gr) : XB Z cx (.Compare l [.NotIn] [r] pos) (bNotInL gl gr) := ⟨W.notInL h2 hm hl.h hr.h⟩
theorem X.W_forL {tgt iter : PySem.Expr} {body : List Stmt} {pos : Pos} {gt : GT} {g : GE} {gb : GS} (h : isL iter = true) (hn : cx.cn = none) (hs : ∀ env x, foldedSetIterable iter env x = pure x) (ht : XT Z cx tgt gt) (he : XL Z cx iter g) (hb : XSs Z cx body gb) : XS Z cx (.For tgt iter body [] pos) (sForL gt g gb) := ⟨W.forL h hn hs ht.h he.h hb.h⟩
theorem X.W_compL1 {elt t iter : PySem.Expr} {scope : Scope} {pos : Pos} {n : Nat} {gt : GT} {g ge : GE} (h : isL iter = true) (hsc : scOk fnm scope = true) (hn : scope.names.length = n) (hs : ∀ env x, foldedSetIterable iter env x = pure x) (ht : XT Z ⟨some scope.names, fnm⟩ t gt) (he : XL Z ⟨none, fnm⟩ iter g) (hb : XE Z ⟨some scope.names, fnm⟩ elt ge) : XL Z ⟨none, fnm⟩ (.ListComp elt [⟨t, iter, [], 0⟩] scope pos) (lCompL n gt g (cElt ge)) := ⟨W.compL1 h hsc hn hs ht.h he.h hb.h⟩
theorem X.W_compL2 {elt t iter b : PySem.Expr} {scope : Scope} {pos : Pos} {n : Nat} {gt : GT} {g ge : GE} {gb : GB} (h : isL iter = true) (hsc : scOk fnm scope = true) (hn : scope.names.length = n) (hs : ∀ env x, foldedSetIterable iter env x = pure x) (ht : XT Z ⟨some scope.names, fnm⟩ t gt) (he : XL Z ⟨none, fnm⟩ iter g) (hb : XB Z ⟨some scope.names, fnm⟩ b gb) (hE : XE Z ⟨some scope.names, fnm⟩ elt ge) : XL Z ⟨none, fnm⟩ (.ListComp elt [⟨t, iter, [b], 0⟩] scope pos) (lCompL n gt g (cIf gb (cElt ge))) := ⟨W.compL2 h hsc hn hs ht.h he.h hb.h hE.h⟩
theorem X.W_comp1 {elt t iter : PySem.Expr} {scope : Scope} {pos : Pos} {n : Nat} {gt : GT} {g ge : GE} (hsc : scOk fnm scope = true) (hn : scope.names.length = n) (hs : ∀ env x, foldedSetIterable iter env x = pure x) (ht : XT Z ⟨some scope.names, fnm⟩ t gt) (he : XE Z ⟨none, fnm⟩ iter g) (hb : XE Z ⟨some scope.names, fnm⟩ elt ge) : XL Z ⟨none, fnm⟩ (.ListComp elt [⟨t, iter, [], 0⟩] scope pos) (lComp n gt g (cElt ge)) := ⟨W.comp1 hsc hn hs ht.h he.h hb.h⟩
theorem X.W_comp2 {elt t iter b : PySem.Expr} {scope : Scope} {pos : Pos} {n : Nat} {gt : GT} {g ge : GE} {gb : GB} (hsc : scOk fnm scope = true) (hn : scope.names.length = n) (hs : ∀ env x, foldedSetIterable iter env x = pure x) (ht : XT Z ⟨some scope.names, fnm⟩ t gt) (he : XE Z ⟨none, fnm⟩ iter g) (hb : XB Z ⟨some scope.names, fnm⟩ b gb) (hE : XE Z ⟨some scope.names, fnm⟩ elt ge) : XL Z ⟨none, fnm⟩ (.ListComp elt [⟨t, iter, [b], 0⟩] scope pos) (lComp n gt g (cIf gb (cElt ge))) := ⟨W.comp2 hsc hn hs ht.h he.h hb.h hE.h⟩
theorem X.W_comp3 {elt t iter t2 iter2 : PySem.Expr} {scope : Scope} {pos : Pos} {n : Nat} {gt gt2 : GT} {g g2 ge : GE} (hsc : scOk fnm scope = true) (hn : scope.names.length = n) (hs : ∀ env x, foldedSetIterable iter env x = pure x) (hs2 : ∀ env x, foldedSetIterable iter2 env x = pure x) (ht : XT Z ⟨some scope.names, fnm⟩ t gt) (he : XE Z ⟨none, fnm⟩ iter g) (ht2 : XT Z ⟨some scope.names, fnm⟩ t2 gt2) (he2 : XE Z ⟨some scope.names, fnm⟩ iter2 g2) (hE : XE Z ⟨some scope.names, fnm⟩ elt ge) : XL Z ⟨none, fnm⟩ (.ListComp elt [⟨t, iter, [], 0⟩, ⟨t2, iter2, [], 0⟩] scope pos) (lComp n gt g (cFor gt2 g2 (cElt ge))) := ⟨W.comp3 hsc hn hs hs2 ht.h he.h ht2.h he2.h hE.h⟩
theorem X.W_asgC {x : Str} {px spos : Pos} {elt t iter b : PySem.Expr} {scope : Scope} {pos : Pos} {n j : Nat} {gt : GT} {g ge : GE} {gb : GB} (hsw : swapOk fnm scope x px pos = true) (hx : slotOf ⟨none, fnm⟩ x = some (.f j)) (hsc : scOk fnm scope = true) (hn : scope.names.length = n) (hs : ∀ env x, foldedSetIterable iter env x = pure x) (ht : XT Z ⟨some scope.names, fnm⟩ t gt) (he : XL Z ⟨none, fnm⟩ iter g) (hb : XB Z ⟨some scope.names, fnm⟩ b gb) (hE : XE Z ⟨some scope.names, fnm⟩ elt ge) : XS Z ⟨none, fnm⟩ (.Assign [.Name x px] (.ListComp elt [⟨t, iter, [b], 0⟩] scope pos) spos) (sAsg (tF j) (eTrack (lCompL n gt g (cIf gb (cElt ge))))) := ⟨W.asgC hsw hx hsc hn hs ht.h he.h hb.h hE.h⟩
end
end Mine

set_option maxRecDepth 100000
namespace Mine
open PySem PySem.W PyProof.Rows PySem.Calls PySem.SeqAt

-- names bound at a call
theorem idx_get : ∀ {l : List (Str × NameKind)} {x : Str} {j : Nat} {k : NameKind}, idx l x = some (j, k) → l[j]? = some (x, k)
  | (y, k') :: r, x, j, k, h => by
    unfold idx at h
    by_cases e : y = x
    · rw [if_pos e] at h
      cases h
      subst e; rfl
    · rw [if_neg e] at h
      cases hi : idx r x with
      | none => rw [hi] at h; cases h
      | some p =>
        rw [hi] at h
        cases h
        simpa using idx_get (l := r) (x := x) (j := p.1) (k := p.2) hi
theorem bindL_skip {kf : Str → Option NameKind} {x : Str} : ∀ {bs : List (Str × Value)} {m : Str → Option Value}, (∀ v, (x, v) ∉ bs) → bindL kf bs m x = m x
  | [], m, _ => rfl
  | (n, v) :: r, m, h => by
    have hr : ∀ w, (x, w) ∉ r := fun w q => h w (List.mem_cons_of_mem _ q)
    have hn : x ≠ n := fun q => h v (by rw [q]; exact List.mem_cons_self)
    show bindL kf r (if kf n = some .local then fun y => if y = n then some v else m y else m) x = m x
    rw [bindL_skip hr]
    split
    · exact if_neg hn
    · rfl
theorem bindL_at {kf : Str → Option NameKind} {x : Str} {v : Value} : ∀ {bs : List (Str × Value)} {m : Str → Option Value}, (bs.map (·.1)).Nodup → (x, v) ∈ bs → kf x = some .local → bindL kf bs m x = some v
  | (n, w) :: r, m, hn, h, hk => by
    rw [List.map_cons, List.nodup_cons] at hn
    show bindL kf r (if kf n = some .local then fun y => if y = n then some w else m y else m) x = some v
    rcases List.mem_cons.mp h with e | h
    · cases e
      rw [bindL_skip fun u q => hn.1 (List.mem_map.mpr ⟨_, q, rfl⟩), if_pos hk, if_pos rfl]
    · exact bindL_at hn.2 h hk
theorem bindC_skip {kf : Str → Option NameKind} {x : Str} : ∀ {bs : List (Str × Value)} {m : Str → Option Value}, (∀ v, (x, v) ∉ bs) → bindC kf bs m x = m x
  | [], m, _ => rfl
  | (n, v) :: r, m, h => by
    have hr : ∀ w, (x, w) ∉ r := fun w q => h w (List.mem_cons_of_mem _ q)
    have hn : x ≠ n := fun q => h v (by rw [q]; exact List.mem_cons_self)
    show bindC kf r (if kf n = some .local then m else fun y => if y = n then some v else m y) x = m x
    rw [bindC_skip hr]
    split
    · rfl
    · exact if_neg hn
theorem bindC_at {kf : Str → Option NameKind} {x : Str} {v : Value} : ∀ {bs : List (Str × Value)} {m : Str → Option Value}, (bs.map (·.1)).Nodup → (x, v) ∈ bs → kf x = some .cell → bindC kf bs m x = some v
  | (n, w) :: r, m, hn, h, hk => by
    rw [List.map_cons, List.nodup_cons] at hn
    show bindC kf r (if kf n = some .local then m else fun y => if y = n then some w else m y) x = some v
    rcases List.mem_cons.mp h with e | h
    · cases e
      rw [bindC_skip fun u q => hn.1 (List.mem_map.mpr ⟨_, q, rfl⟩), if_neg (by rw [hk]; intro q; cases q), if_pos rfl]
    · exact bindC_at hn.2 h hk
theorem cellsFrom_some : ∀ (l : List (Str × NameKind)) (n : Nat) (acc : List (Str × Addr)) (x : Str), ((x, NameKind.cell) ∈ l ∨ (acc.lookup x).isSome = true) → ((cellsFrom n l acc).lookup x).isSome = true
  | [], n, acc, x, h => h.resolve_left fun q => by cases q
  | (y, k) :: r, n, acc, x, h => by
    unfold cellsFrom
    by_cases hk : k = .cell
    · subst hk
      rw [if_pos (show (NameKind.cell == NameKind.cell) = true from rfl)]
      refine cellsFrom_some r (n + 1) _ x ?_
      by_cases hx : x = y
      · subst hx; exact .inr (by simp)
      · rcases h with h | h
        · rcases List.mem_cons.mp h with e | h
          · cases e; exact (hx rfl).elim
          · exact .inl h
        · refine .inr ?_
          rw [List.lookup_cons, show (x == y) = false from beq_eq_false_iff_ne.mpr hx]
          exact h
    · rw [if_neg (by simpa using hk)]
      refine cellsFrom_some r n acc x ?_
      rcases h with h | h
      · rcases List.mem_cons.mp h with e | h
        · cases e; exact (hk rfl).elim
        · exact .inl h
      · exact .inr h
theorem lookup_mem {l : List (Str × Addr)} {x : Str} {a : Addr} (h : l.lookup x = some a) : (x, a) ∈ l := by
  induction l with
  | nil => simp at h
  | cons y r ih =>
    obtain ⟨y, b⟩ := y
    rw [List.lookup_cons] at h
    by_cases e : x = y
    · subst e
      simp only [beq_self_eq_true, Option.some.injEq] at h
      subst h; exact List.mem_cons_self
    · rw [show (x == y) = false from beq_eq_false_iff_ne.mpr e] at h
      exact List.mem_cons_of_mem _ (ih h)
theorem apart_inj {l : List (Str × Addr)} (hp : l.Pairwise fun x y => x.2 ≠ y.2) : ∀ {x y : Str} {a : Addr}, (x, a) ∈ l → (y, a) ∈ l → x = y := by
  induction l with
  | nil => intro x y a h; cases h
  | cons z r ih =>
    intro x y a hx hy
    rw [List.pairwise_cons] at hp
    rcases List.mem_cons.mp hx with e | hx
    · rcases List.mem_cons.mp hy with e' | hy
      · rw [← e'] at e; cases e; rfl
      · exact (hp.1 _ hy (by rw [← e])).elim
    · rcases List.mem_cons.mp hy with e' | hy
      · exact (hp.1 _ hx (by rw [← e'])).elim
      · exact ih hp.2 hx hy
theorem frameK_iff {α : List Addr} {h : Heap} {k : List DV → Bool} : ∀ {ds : DV} {vs : List Value} {dfl : List DV}, VI α h vs ds → frameK ds dfl k = true → ∃ f, k f = true ∧ (∀ j, j < vs.length → ∃ v, vs[j]? = some v ∧ V α h v (nthD f j)) ∧ (∀ j, vs.length ≤ j → nthD f j = nthD dfl j) := by
  intro ds
  induction ds generalizing k with
  | nil => intro vs dfl e q; cases e; exact ⟨dfl, q, (fun j hj => by cases hj), fun _ _ => rfl⟩
  | cons x y _ ih =>
    rintro vs dfl ⟨u, us, rfl, h1, h2⟩ q
    cases dfl with
    | nil => exact absurd q (by simp [frameK])
    | cons d r =>
      obtain ⟨f, q', a, b⟩ := ih (k := fun r => k (x :: r)) h2 (show frameK y r (fun r => k (x :: r)) = true from q)
      refine ⟨x :: f, q', fun j hj => ?_, fun j hj => ?_⟩
      · cases j with
        | zero => exact ⟨u, rfl, h1⟩
        | succ j =>
          obtain ⟨v, e, r⟩ := a j (by simpa using hj)
          exact ⟨v, by simpa using e, r⟩
      · cases j with
        | zero => simp at hj
        | succ j => exact b j (by simpa using hj)
  | _ => intro vs dfl e; exact e.elim

theorem callBt {prog : Program} {w : World} {A : Around} {s : Shared} {R : Result → Shared → Prop} {a : Addr} {o : Obj} {fd : FuncData} {body : List Stmt} {vals : List Value} {binds : List (Str × Value)}
    (hroom : A.depth < recursionLimit) (ho : s.heap.get? a = some o) (hdata : o.data = .func fd) (hlim : s.heap.NoLimit) (hcd : s.heap.CodeRec fd.code fd.qualname)
    (hbody : fd.body = .stmts body) (hbind : BindsTo s fd ⟨vals, []⟩ binds) (hclo : fd.closure = [])
    (hkind : ∀ x ∈ binds, fd.scope.names.lookup x.1 = some .local ∨ (fd.scope.names.lookup x.1 = some .cell ∧ ((cellsFrom (s.heap.objs.size + 1) fd.scope.names []).lookup x.1).isSome = true))
    (h : ∀ s₁, InCallC s (callEnvC fd s.heap.objs.size a).locals (bindL (callEnvC fd s.heap.objs.size a).kindOf binds fun _ => none) (callEnvC fd s.heap.objs.size a).cells (bindC (callEnvC fd s.heap.objs.size a).kindOf binds fun _ => none) s₁ →
      wpAny (model prog w) (A.deeper (callEnvC fd s.heap.objs.size a)) (execs body (callEnvC fd s.heap.objs.size a)) (fun f s' => R (.ok (.ret (match f with | .ret v => v | _ => .none))) s')
        (fun e s' => wpAny (model prog w) (A.deeper (callEnvC fd s.heap.objs.size a)) (leaving (callEnvC fd s.heap.objs.size a) e) (fun _ s'' => R (.error e) s'') (fun e' s'' => R (.error e') s'') s') s₁)
    (hco : fd.scope.isCoroutine = false) (hgen : fd.scope.isGenerator = false) (hk : fd.scope.kind = .function) : codeAny (model prog w) A (.call (.ref a) ⟨vals, []⟩) R s := by
  refine codeAny_call_function hroom ho hdata hco hgen hbody hcd (hbind _ _ _ _ ?_)
  rw [hclo]
  refine wpAny_newFunctionEnv_cells hk hkind fun env he s' x => ?_
  subst he
  exact ⟨hlim.keeps x.toInCall.keep, codeAny_func (h s' x)⟩
/-- a function of the program -/
structure FnOk (Z : Base) (n : Nat) (D : FD) : Prop where
  ex : ∃ (o : Obj) (fd : FuncData) (body : List Stmt) (dv : List Value), Z.h₀.get? (Z.fa n) = some o ∧ o.data = .func fd ∧ Z.h₀.CodeRec fd.code fd.qualname ∧ fd.closure = [] ∧ fd.globals = mainGlobals ∧ fd.builtins = builtinsNs ∧ fd.body = .stmts body ∧
    fd.scope.isCoroutine = false ∧ fd.scope.isGenerator = false ∧ fd.scope.kind = .function ∧ SSs Z ⟨none, fd.scope.names⟩ body D.body ∧
    (∀ (s : Shared) (vals : List Value), (∀ b o, Z.h₀.get? b = some o → s.heap.get? b = some o) → D.lo ≤ vals.length → vals.length ≤ D.hi → BindsTo s fd ⟨vals, []⟩ ((fd.scope.names.map (·.1)).zip (vals ++ dv.drop vals.length))) ∧
    (∀ y ∈ fd.scope.names.take (max D.hi dv.length), y.2 = .local ∨ y.2 = .cell) ∧ (fd.scope.names.map (·.1)).Nodup ∧
    (∀ j, D.lo ≤ j → nthD D.dfl j ≠ .unb → ∃ v, dv[j]? = some v ∧ ∀ h, V [] h v (nthD D.dfl j))
theorem StoOk.take {prog : Program} {w : World} {α t : List Addr} {σ σ' : Sto} {h : Heap} (x : StoOk prog w (α ++ t) σ' h) (hl : α.length = σ.length) : StoOk prog w α (σ'.take σ.length) h := by
  have l1 := x.len
  rw [List.length_append] at l1
  refine ⟨by rw [List.length_take, hl]; omega, (List.nodup_append.mp x.nod).1, fun n a o hn ho => ?_⟩
  have hlt : n < α.length := (List.getElem?_eq_some_iff.mp hn).1
  rw [List.getElem?_take_of_lt (by omega)] at ho
  exact x.obj n a o (by rw [List.getElem?_append_left hlt]; exact hn) ho
theorem backK_iff {n₀ : Nat} {d : DV} {σ : Sto} {k : RV → Sto → Bool} (h : backK n₀ d σ k = true) : (∃ r, k (.val r) (σ.take n₀) = true ∧ r = d ∧ (∀ α h v, V α h v d → V [] h v d)) ∨ ∃ n o, d = .loc n ∧ n₀ ≤ n ∧ σ[n]? = some o ∧ ((∃ l, o = .list l ∧ k (.list l) (σ.take n₀) = true) ∨ ∃ es, o = .dict es ∧ k (.dict es) (σ.take n₀) = true) := by
  cases d with
  | non => rw [show backK n₀ .non σ k = takeO n₀ σ (fun σ => k (.val .non) σ) from rfl, takeO_eq] at h; exact .inl ⟨_, h, rfl, fun _ _ _ x => x⟩
  | bool b => rw [show backK n₀ (.bool b) σ k = takeO n₀ σ (fun σ => k (.val (.bool b)) σ) from rfl, takeO_eq] at h; exact .inl ⟨_, h, rfl, fun _ _ _ x => x⟩
  | int i => rw [show backK n₀ (.int i) σ k = takeO n₀ σ (fun σ => k (.val (.int i)) σ) from rfl, takeO_eq] at h; exact .inl ⟨_, h, rfl, fun _ _ _ x => x⟩
  | nil => rw [show backK n₀ .nil σ k = takeO n₀ σ (fun σ => k (.val .nil) σ) from rfl, takeO_eq] at h; exact .inl ⟨_, h, rfl, fun _ _ _ x => x⟩
  | cons x y =>
    obtain ⟨g, h⟩ := ck_iff (show ck (.cons x y) (takeO n₀ σ fun σ => k (.val (.cons x y)) σ) = true from h)
    rw [takeO_eq] at h
    exact .inl ⟨_, h, rfl, fun _ _ _ r => V.ground r g⟩
  | loc n =>
    rcases ifB_iff (show ifB (Nat.blt n n₀) false (nthO σ n fun o => DObj.rec (motive := fun _ => Bool) (fun d => (takeO n₀ σ fun σ => k (.list d) σ)) (fun es => takeO n₀ σ fun σ => k (.dict es) σ) o) = true from h) with ⟨_, q⟩ | ⟨hb, q⟩
    · cases q
    · have hle : n₀ ≤ n := by
        rcases Nat.lt_or_ge n n₀ with h | h
        · have : Nat.blt n n₀ = true := Nat.ble_eq_true_of_le h
          rw [this] at hb; cases hb
        · exact h
      obtain ⟨o, e, q⟩ := nthO_iff q
      refine .inr ⟨n, o, rfl, hle, e, ?_⟩
      cases o with
      | list l =>
        have q' : takeO n₀ σ (fun σ => k (.list l) σ) = true := q
        rw [takeO_eq] at q'
        exact .inl ⟨l, rfl, q'⟩
      | dict es =>
        have q' : takeO n₀ σ (fun σ => k (.dict es) σ) = true := q
        rw [takeO_eq] at q'
        exact .inr ⟨es, rfl, q'⟩
  | _ => exact absurd h (by simp [backK])
theorem zip_fst_sub {α β : Type} : ∀ (l : List α) (r : List β), ((l.zip r).map (·.1)).Sublist l
  | [], r => by simp
  | a :: l, [] => by simp
  | a :: l, b :: r => by
    rw [List.zip_cons_cons, List.map_cons]
    exact (zip_fst_sub l r).cons₂ a
theorem lookup_get : ∀ {l : List (Str × NameKind)} {i : Nat} {x : Str} {k : NameKind}, (l.map (·.1)).Nodup → l[i]? = some (x, k) → l.lookup x = some k
  | (y, k') :: r, 0, x, k, _, h => by
    simp only [List.getElem?_cons_zero, Option.some.injEq] at h
    cases h
    simp
  | (y, k') :: r, i + 1, x, k, hn, h => by
    rw [List.map_cons, List.nodup_cons] at hn
    have h' : r[i]? = some (x, k) := by simpa using h
    have hne : x ≠ y := by
      rintro rfl
      exact hn.1 (List.mem_map.mpr ⟨_, List.mem_of_getElem? h', rfl⟩)
    rw [List.lookup_cons, show (x == y) = false from beq_eq_false_iff_ne.mpr hne]
    exact lookup_get hn.2 h'
theorem fnGo {Z : Base} {n : Nat} {D : FD} {m : Nat} {R : FSem} {ds : DV} {σ : Sto} {k : RV → Sto → Bool} {A : Around} {α : List Addr} {s : Shared} {vs : List Value} (F : FnOk Z n D) (hR : RS Z m R) (hk : fnK D.dfl D.lo D.hi D.body R ds σ k = true) (hA : Room (m + 1) A)
    (base : ∀ b o, Z.h₀.get? b = some o → s.heap.get? b = some o) (st : StoOk Z.prog Z.w α σ s.heap) (fA : ∀ b ∈ α, Z.h₀.get? b = none) (V : VI α s.heap vs ds) (Q : Value → Shared → Prop)
    (hQ : ∀ r σ' v h' tk', k r σ' = true → StoOk Z.prog Z.w α σ' h' → (∀ b o, s.heap.get? b = some o → b ∉ α → h'.get? b = some o) → RVOk Z α s.heap h' v r → Q v { s with heap := h', toks := tk' }) :
    wpAny (model Z.prog Z.w) A (call (.ref (Z.fa n)) vs) Q NoE s := by
  obtain ⟨o, fd, body, dv, ho, hdt, hcd, hclo, hglo, hbui, hbody, hco, hgen, hkd, hss, hbind, hkinds, hnd, hdfl⟩ := F.ex
  have q1 := lenC_iff V hk
  rcases ifB_iff q1 with ⟨hlo, q2⟩ | ⟨_, q2⟩
  case inr => cases q2
  rcases ifB_iff q2 with ⟨hhi, q3⟩ | ⟨_, q3⟩
  case inr => cases q3
  have hlo := Nat.le_of_ble_eq_true hlo
  have hhi := Nat.le_of_ble_eq_true hhi
  obtain ⟨f, hf, ha, hb⟩ := frameK_iff V q3
  rw [frcN_eq, lenO_eq] at hf
  have hvals : ∀ j, nthD f j ≠ .unb → ∃ v, (vs ++ dv.drop vs.length)[j]? = some v ∧ Mine.V α s.heap v (nthD f j) := by
    intro j hj
    by_cases hlt : j < vs.length
    · obtain ⟨v, e, r⟩ := ha j hlt
      exact ⟨v, by rw [List.getElem?_append_left hlt]; exact e, r⟩
    · have hge : vs.length ≤ j := by omega
      have e0 := hb j hge
      rw [e0] at hj ⊢
      obtain ⟨v, e, r⟩ := hdfl j (by omega) hj
      refine ⟨v, ?_, (r s.heap).lift⟩
      rw [List.getElem?_append_right hge, List.getElem?_drop]
      rw [show vs.length + (j - vs.length) = j by omega]
      exact e
  have inB : ∀ {x : Str} {j : Nat} {kd : NameKind} {v : Value}, idx fd.scope.names x = some (j, kd) → (vs ++ dv.drop vs.length)[j]? = some v → (x, v) ∈ (fd.scope.names.map (·.1)).zip (vs ++ dv.drop vs.length) := by
    intro x j kd v hi hv
    refine List.mem_of_getElem? (i := j) ?_
    rw [List.getElem?_zip_eq_some]
    exact ⟨by rw [List.getElem?_map, idx_get hi]; rfl, hv⟩
  have hnodB : (((fd.scope.names.map (·.1)).zip (vs ++ dv.drop vs.length)).map (·.1)).Nodup := by
    have := zip_fst_sub (fd.scope.names.map (·.1)) (vs ++ dv.drop vs.length)
    exact this.nodup hnd
  have hkind : ∀ x ∈ (fd.scope.names.map (·.1)).zip (vs ++ dv.drop vs.length), fd.scope.names.lookup x.1 = some .local ∨ (fd.scope.names.lookup x.1 = some .cell ∧ ((cellsFrom (s.heap.objs.size + 1) fd.scope.names []).lookup x.1).isSome = true) := by
    intro x hx
    obtain ⟨i, hi, rfl⟩ := List.mem_iff_getElem.mp hx
    have hz := List.getElem?_eq_getElem hi
    obtain ⟨e1, e2⟩ := List.getElem?_zip_eq_some.mp hz
    rw [List.getElem?_map] at e1
    cases hg : fd.scope.names[i]? with
    | none => rw [hg] at e1; cases e1
    | some y =>
      rw [hg] at e1
      have hy : y.1 = (((fd.scope.names.map (·.1)).zip (vs ++ dv.drop vs.length))[i]).1 := Option.some.inj e1
      have hlt : i < (vs ++ dv.drop vs.length).length := (List.getElem?_eq_some_iff.mp e2).1
      have hmem : y ∈ fd.scope.names.take (max D.hi dv.length) := by
        refine List.mem_of_getElem? (i := i) ?_
        rw [List.getElem?_take_of_lt]
        · exact hg
        · rw [List.length_append, List.length_drop] at hlt
          omega
      have hl := lookup_get hnd (show fd.scope.names[i]? = some (y.1, y.2) from hg)
      rw [← hy]
      rcases hkinds y hmem with e | e
      · rw [e] at hl; exact .inl hl
      · rw [e] at hl
        exact .inr ⟨hl, cellsFrom_some _ _ _ _ (.inl (mem_lookup hl))⟩
  refine wpAny_call (callBt hA.depth (base _ _ ho) hdt (Z.lim.keeps base) (hcd.keeps base) hbody (hbind s vs base hlo hhi) hclo hkind (fun s₁ x => ?_) hco hgen hkd)
  obtain ⟨h', tk, rfl, kk⟩ := x.done
  have hns := x.toInCall.ns
  have im := ImmK.of_keep kk
  have frL : s.heap.get? s.heap.objs.size = none := fresh_none s.heap
  have base' : ∀ b o, Z.h₀.get? b = some o → h'.get? b = some o := fun b o e => kk b o (base b o e)
  have h0n : ∀ b, s.heap.get? b = none → Z.h₀.get? b = none := fun b hb => by
    cases q : Z.h₀.get? b with
    | none => rfl
    | some o => rw [base b o q] at hb; cases hb
  have αn : ∀ b, s.heap.get? b = none → b ∉ α := by
    intro b hb q
    obtain ⟨n, hn, rfl⟩ := List.mem_iff_getElem.mp q
    have hn' : n < σ.length := st.len ▸ hn
    obtain ⟨ob, e', _⟩ := (st.obj n _ _ (List.getElem?_eq_getElem hn) (List.getElem?_eq_getElem hn')).there
    rw [hb] at e'; cases e'
  have cellN : ∀ y b, (callEnvC fd s.heap.objs.size (Z.fa n)).cells.lookup y = some b → s.heap.get? b = none := fun y b hb => Heap.get?_none_of_le (Nat.le_of_lt (x.above y b (lookup_mem hb)))
  have I : IN Z ⟨none, fd.scope.names⟩ (callEnvC fd s.heap.objs.size (Z.fa n)) [] f σ α h' := by
    refine ⟨base', ⟨st.len, st.nod, fun n a o hn ho => (st.obj n a o hn ho).keep (fun ob e => kk a ob e) im⟩, ⟨hkd, hglo, hbui, fun y p hy => ?_, fun y hy => ?_, fun _ _ => rfl, fun y i hy => ?_, ⟨_, hns, fun y p hy hk => ?_⟩, fun y p hy hk => ?_, fun y q => ?_, fun y z a hy hz => ?_⟩, h0n _ frL, fun b hb => ?_, fA, αn _ frL, fun b hb => ?_⟩
    · obtain ⟨j, kd, hi, _, hkk⟩ := slotF_idx (show slotF fd.scope.names y = some p from hy)
      have := idx_lookup hi
      rcases hkk with rfl | rfl
      · exact .inl this
      · exact .inr this
    · have : fd.scope.names.lookup y = some .globalImplicit := by simpa [globOf] using hy
      exact this
    · obtain ⟨j, kd, hi, e, _⟩ := slotF_idx (show slotF fd.scope.names y = some (.c i) from hy)
      cases e
    · obtain ⟨j, kd, hi, rfl, _⟩ := slotF_idx (show slotF fd.scope.names y = some p from hy)
      by_cases hu : nthD f j = .unb
      · exact .inl hu
      · obtain ⟨v, e, r⟩ := hvals j hu
        exact .inr ⟨v, bindL_at hnodB (inB hi e) hk, r.imm im⟩
    · obtain ⟨j, kd, hi, rfl, _⟩ := slotF_idx (show slotF fd.scope.names y = some p from hy)
      have hk' : fd.scope.names.lookup y = some .cell := hk
      have hsome := cellsFrom_some fd.scope.names (s.heap.objs.size + 1) [] y (.inl (mem_lookup hk'))
      obtain ⟨a, ha⟩ := Option.isSome_iff_exists.mp hsome
      refine ⟨a, _, ha, x.cell y a ha, ?_⟩
      by_cases hu : nthD f j = .unb
      · exact .inl hu
      · obtain ⟨v, e, r⟩ := hvals j hu
        exact .inr ⟨v, bindC_at hnodB (inB hi e) hk, r.imm im⟩
    · have h1 := x.above y _ (lookup_mem q)
      exact absurd h1 (Nat.lt_irrefl _)
    · exact apart_inj x.apart (lookup_mem hy) (lookup_mem hz)
    · obtain ⟨y, p, _, _, hl⟩ := hb
      exact h0n b (cellN y b hl)
    · obtain ⟨y, p, _, _, hl⟩ := hb
      exact αn b (cellN y b hl)
  have fin : ∀ (d : DV) (σ' : Sto) (v : Value) (α' : List Addr) (h₂ : Heap) (tk₂ : Tok) (f' : Sl), backK σ.length d σ' k = true → IN Z ⟨none, fd.scope.names⟩ (callEnvC fd s.heap.objs.size (Z.fa n)) [] f' σ' α' h₂ → Ext ⟨none, fd.scope.names⟩ (callEnvC fd s.heap.objs.size (Z.fa n)) α h' α' h₂ → Mine.V α' h₂ v d → Q v { s with heap := h₂, toks := tk₂ } := by
    intro d σ' v α' h₂ tk₂ f' hb I₂ E₂ V₂
    obtain ⟨t, rfl, ht⟩ := E₂.pre
    have st₂ := I₂.sto.take (σ := σ) st.len
    have keep : ∀ b o, s.heap.get? b = some o → b ∉ α → h₂.get? b = some o := by
      intro b o e hb
      refine E₂.keep b o (kk b o e) ?_
      rintro (q | ⟨_, y, p, _, _, hl⟩ | q)
      · have q' : b = s.heap.objs.size := q
        rw [q', frL] at e; cases e
      · rw [cellN y b hl] at e; cases e
      · exact hb q
    rcases backK_iff hb with ⟨r, kr, rfl, gr⟩ | ⟨n', ob, rfl, hle, eo, hor⟩
    · exact hQ (.val r) _ v h₂ tk₂ kr st₂ keep (gr _ _ _ V₂).lift
    · obtain ⟨a, ha, rfl⟩ := V₂
      have hat : a ∈ t := by
        rw [List.getElem?_append_right (by rw [st.len]; exact hle)] at ha
        exact List.mem_of_getElem? ha
      have fr : s.heap.get? a = none := by
        cases q : s.heap.get? a with
        | none => rfl
        | some o =>
          have := kk a o q
          rw [ht a hat] at this; cases this
      have hob := I₂.sto.obj n' a ob ha eo
      rcases hor with ⟨l, rfl, kr⟩ | ⟨es, rfl, kr⟩
      · exact hQ (.list l) _ _ h₂ tk₂ kr st₂ keep ⟨a, rfl, fr, hob⟩
      · exact hQ (.dict es) _ _ h₂ tk₂ kr st₂ keep ⟨a, rfl, fr, hob⟩
  refine wpAny_mono (hss (s := { s with heap := h', toks := tk }) hR hA.deeper I hf (fun fl s' => Q (match fl with | .ret v => v | _ => .none) s') (fun f' σ' α' h₂ t₂ q I₂ E₂ => ?_) fun d σ' v α' h₂ t₂ f' q I₂ E₂ V₂ => ?_) (fun _ _ x => x) fun _ _ x => x.elim
  · exact fin .non σ' .none α' h₂ t₂ f' q I₂ E₂ rfl
  · exact fin d σ' v α' h₂ t₂ f' q I₂ E₂ V₂
theorem pick_iff' {R : FSem} {ds : DV} {σ : Sto} {k : RV → Sto → Bool} : ∀ {T : List FD} {n : Nat}, pick T n R ds σ k = true → ∃ D, T[n]? = some D ∧ fnK D.dfl D.lo D.hi D.body R ds σ k = true
  | [], n, h => absurd h (by simp [pick])
  | D :: T, 0, h => ⟨D, rfl, h⟩
  | D :: T, n + 1, h => by
    obtain ⟨D', e, h'⟩ := pick_iff' (T := T) (n := n) h
    exact ⟨D', by simpa using e, h'⟩
theorem RS.sem {Z : Base} {T : List FD} (F : ∀ n D, T[n]? = some D → FnOk Z n D) : ∀ m, RS Z m (Mine.sem T m)
  | 0 => fun n ds σ k h => absurd h (by simp [Mine.sem])
  | m + 1 => fun n ds σ k h A α s vs hA base st fA V Q hQ => by
    obtain ⟨D, e, h'⟩ := pick_iff' (show pick T n (Mine.sem T m) ds σ k = true from h)
    exact fnGo (F n D e) (RS.sem F m) h' hA base st fA V Q hQ
end Mine

set_option maxRecDepth 100000
set_option maxHeartbeats 0
namespace Mine
open PySem PySem.W

local macro_rules | `(tactic| trivial) => `(tactic| (with_unfolding_all rfl))
local macro_rules | `(tactic| constructor) => `(tactic| (repeat' (first
  | exact X.SSs_nil | exact X.SEs_nil | exact X.SOr_nil | exact X.SAnd_nil
  | refine' X.SSs_cons ?_ ?_ | refine' X.SEs_cons (fun _ _ => rfl) ?_ ?_ (by decide) | refine' X.SOr_cons ?_ ?_ | refine' X.SAnd_cons ?_ ?_
  | refine' X.SS_setI (fun _ => rfl) ?_ ?_ ?_ | refine' X.W_asgC (by trivial) (by trivial) (by trivial) (by trivial) (fun _ _ => rfl) ?_ ?_ ?_ ?_ | refine' X.SS_asg rfl (fun _ => rfl) (fun _ _ => rfl) (fun _ => rfl) ?_ ?_ | refine' X.SS_asg rfl (fun _ => rfl) (sw_two (by trivial)) (fun _ => rfl) ?_ ?_
  | refine' X.SS_augI ?_ ?_ ?_ | refine' X.SS_augN rfl (by trivial) ?_ | refine' X.SS_ife ?_ ?_ ?_ | refine' X.SS_whl ?_ ?_ | refine' X.W_forL (by trivial) rfl (fun _ _ => rfl) ?_ ?_ ?_ | refine' X.SS_for rfl (fun _ _ => rfl) ?_ ?_ ?_ | refine' X.SS_ret ?_ | refine' X.SS_exp (fun _ => rfl) ?_
  | exact X.ST_nmC (by trivial) | exact X.ST_nmF rfl (by trivial) | refine' X.ST_tup (fun _ => rfl) ?_ ?_
  | refine' X.W_eqL (by trivial) (by trivial) (fun _ => rfl) ?_ ?_ | refine' X.W_neL (by trivial) (by trivial) (fun _ => rfl) ?_ ?_ | refine' X.W_eqEL (by trivial) (fun _ => rfl) ?_ ?_ | refine' X.W_neEL (by trivial) (fun _ => rfl) ?_ ?_
  | refine' X.SB_eq (fun _ => rfl) ?_ ?_ | refine' X.SB_ne (fun _ => rfl) ?_ ?_ | refine' X.SB_lt (fun _ => rfl) ?_ ?_ | refine' X.SB_gt (fun _ => rfl) ?_ ?_
  | refine' X.W_inL (by trivial) (fun _ => rfl) ?_ ?_ | refine' X.W_notInL (by trivial) (fun _ => rfl) ?_ ?_ | refine' X.SB_isIn (fun _ => rfl) ?_ ?_ | refine' X.SB_notIn (fun _ => rfl) ?_ ?_ | refine' X.SB_is (fun _ => rfl) ?_ ?_
  | refine' X.SB_or ?_ | refine' X.SB_and ?_ | refine' X.SB_val (fun _ _ => rfl) ?_
  | refine' X.SL_disp ?_ | refine' X.W_sortL (by trivial) (by trivial) (by trivial) (fun _ _ => rfl) ?_ | refine' X.SL_sortE (by trivial) (by trivial) (fun _ _ => rfl) ?_ | refine' X.SL_call (by trivial) (by trivial) (by trivial) ?_
  | refine' X.W_addEL (by trivial) ?_ ?_ | refine' X.W_addLE (by trivial) ?_ ?_ | refine' X.SL_slc (fun _ _ => rfl) ?_ ?_
  | refine' X.W_compL1 (by trivial) (by trivial) (by trivial) (fun _ _ => rfl) ?_ ?_ ?_ | refine' X.W_compL2 (by trivial) (by trivial) (by trivial) (fun _ _ => rfl) ?_ ?_ ?_ ?_
  | refine' X.W_comp1 (by trivial) (by trivial) (fun _ _ => rfl) ?_ ?_ ?_ | refine' X.W_comp2 (by trivial) (by trivial) (fun _ _ => rfl) ?_ ?_ ?_ ?_ | refine' X.W_comp3 (by trivial) (by trivial) (fun _ _ => rfl) (fun _ _ => rfl) ?_ ?_ ?_ ?_ ?_
  | exact X.SE_con (by trivial) | exact X.SE_nmC (by trivial) (by trivial) | exact X.SE_nmF (by trivial) (by trivial) | refine' X.W_trk (by trivial) ?_
  | refine' X.SE_tup ?_ | exact X.SE_dct0 | refine' X.SE_dct1 ?_ ?_ | refine' X.SE_add ?_ ?_ | refine' X.SE_sub ?_ ?_ | refine' X.SE_mul ?_ ?_ | refine' X.SE_div ?_ ?_ | refine' X.SE_mod ?_ ?_ | refine' X.SE_ite ?_ ?_ ?_
  | refine' X.SE_isTup (by trivial) (by trivial) (by trivial) (by trivial) (fun _ _ => rfl) ?_ | refine' X.SE_call (by trivial) (by trivial) (by trivial) ?_ | refine' X.W_lenL (by trivial) (by trivial) (by trivial) (fun _ _ => rfl) ?_ | refine' X.SE_lenE (by trivial) (by trivial) (fun _ _ => rfl) ?_
  | refine' X.W_tupL (by trivial) (by trivial) (by trivial) (fun _ _ => rfl) ?_ | refine' X.W_maxL (by trivial) (by trivial) (by trivial) (fun _ _ => rfl) ?_ | refine' X.SE_min (by trivial) (by trivial) (fun _ _ => rfl) (fun _ _ => rfl) ?_ ?_ | refine' X.SE_rng1 (by trivial) (by trivial) (fun _ _ => rfl) ?_ | refine' X.SE_rng2 (by trivial) (by trivial) (fun _ _ => rfl) (fun _ _ => rfl) ?_ ?_
  | refine' X.SE_append (fun _ _ => rfl) (by trivial) (by trivial) (fun _ _ => rfl) ?_ ?_ | refine' X.SE_insert (fun _ _ => rfl) (by trivial) (by trivial) (fun _ _ => rfl) (fun _ _ => rfl) ?_ ?_ ?_ | refine' X.SE_get2 (fun _ _ => rfl) (by trivial) (by trivial) (fun _ _ => rfl) (fun _ _ => rfl) ?_ ?_ ?_
  | refine' X.SE_items (fun _ _ => rfl) (by trivial) (by trivial) ?_ | refine' X.SE_values (fun _ _ => rfl) (by trivial) (by trivial) ?_
  | refine' X.SE_subs (fun _ _ => rfl) ?_ ?_
  | exact X.SE_dead | exact X.SS_dead)))

noncomputable def p0 : { p : GS // ∀ Z : Base, XSs Z ⟨none, (defOf 1).2.names⟩ (defOf 1).1 p } := ⟨_, fun Z => by constructor⟩
noncomputable def p1 : { p : GS // ∀ Z : Base, XSs Z ⟨none, (defOf 2).2.names⟩ (defOf 2).1 p } := ⟨_, fun Z => by constructor⟩
noncomputable def p2 : { p : GS // ∀ Z : Base, XSs Z ⟨none, (defOf 4).2.names⟩ (defOf 4).1 p } := ⟨_, fun Z => by constructor⟩
noncomputable def p3 : { p : GS // ∀ Z : Base, XSs Z ⟨none, (defOf 5).2.names⟩ (defOf 5).1 p } := ⟨_, fun Z => by constructor⟩
noncomputable def p4 : { p : GS // ∀ Z : Base, XSs Z ⟨none, (defOf 7).2.names⟩ (defOf 7).1 p } := ⟨_, fun Z => by constructor⟩
noncomputable def p5 : { p : GS // ∀ Z : Base, XSs Z ⟨none, (defOf 8).2.names⟩ (defOf 8).1 p } := ⟨_, fun Z => by constructor⟩
noncomputable def p6 : { p : GS // ∀ Z : Base, XSs Z ⟨none, (defOf 9).2.names⟩ (defOf 9).1 p } := ⟨_, fun Z => by constructor⟩
noncomputable def p7 : { p : GS // ∀ Z : Base, XSs Z ⟨none, (defOf 10).2.names⟩ (defOf 10).1.tail p } := ⟨_, fun Z => by constructor⟩
end Mine

set_option maxHeartbeats 8000000
open PySem PySem.W PyProof.Rows
open_top hd for PySem.Challenge.rw_hv0001_01

set_option maxRecDepth 100000
set_option maxHeartbeats 0
namespace Mine
open PySem PySem.W PyProof.Rows PySem.Calls PySem.SeqAt

theorem nthD_unb : ∀ (l : List DV), (∀ d ∈ l, d = .unb) → ∀ j, nthD l j = .unb
  | [], _, j => rfl
  | x :: r, h, 0 => h x List.mem_cons_self
  | x :: r, h, j + 1 => nthD_unb r (fun d hd => h d (List.mem_cons_of_mem _ hd)) j
def unbs (n : Nat) : List DV := List.replicate n .unb
theorem unbs_get (n j : Nat) : nthD (unbs n) j = .unb := nthD_unb _ (fun d h => (List.mem_replicate.mp h).2) j
theorem fn0 (Z : Base) {P : Params} (KX : (hd.heap_39 P).In Z.h₀) (hfa : Z.fa 0 = 21) {g : GS} (hss : SSs Z ⟨none, (defOf 1).2.names⟩ (defOf 1).1 g) : FnOk Z 0 ⟨unbs 8, 2, 2, g⟩ := by
  refine ⟨⟨_, _, _, [], by rw [hfa]; exact KX 21 _ rfl, rfl, ⟨20, _, _, _, rfl, KX 20 _ rfl, rfl, rfl⟩, rfl, rfl, rfl, rfl, rfl, rfl, rfl, hss, fun s vals _ h1 h2 => ?_, ?_, ?_, fun j _ h => absurd (unbs_get 8 j) h⟩⟩
  · match vals, h1, h2 with
    | [a, b], _, _ => exact BindsTo.of_eq rfl
  · dsimp only; decide +kernel
  · dsimp only; decide +kernel
theorem fn1 (Z : Base) {P : Params} (KX : (hd.heap_39 P).In Z.h₀) (hfa : Z.fa 1 = 28) {g : GS} (hss : SSs Z ⟨none, (defOf 2).2.names⟩ (defOf 2).1 g) : FnOk Z 1 ⟨unbs 3, 1, 1, g⟩ := by
  refine ⟨⟨_, _, _, [], by rw [hfa]; exact KX 28 _ rfl, rfl, ⟨27, _, _, _, rfl, KX 27 _ rfl, rfl, rfl⟩, rfl, rfl, rfl, rfl, rfl, rfl, rfl, hss, fun s vals _ h1 h2 => ?_, ?_, ?_, fun j _ h => absurd (unbs_get 3 j) h⟩⟩
  · match vals, h1, h2 with
    | [a], _, _ => exact BindsTo.of_eq rfl
  · dsimp only; decide +kernel
  · dsimp only; decide +kernel
theorem fn4 (Z : Base) {P : Params} (KX : (hd.heap_39 P).In Z.h₀) (hfa : Z.fa 4 = 51) {g : GS} (hss : SSs Z ⟨none, (defOf 7).2.names⟩ (defOf 7).1 g) : FnOk Z 4 ⟨unbs 6, 1, 1, g⟩ := by
  refine ⟨⟨_, _, _, [], by rw [hfa]; exact KX 51 _ rfl, rfl, ⟨50, _, _, _, rfl, KX 50 _ rfl, rfl, rfl⟩, rfl, rfl, rfl, rfl, rfl, rfl, rfl, hss, fun s vals _ h1 h2 => ?_, ?_, ?_, fun j _ h => absurd (unbs_get 6 j) h⟩⟩
  · match vals, h1, h2 with
    | [a], _, _ => exact BindsTo.of_eq rfl
  · dsimp only; decide +kernel
  · dsimp only; decide +kernel
theorem fn5 (Z : Base) {P : Params} (KX : (hd.heap_39 P).In Z.h₀) (hfa : Z.fa 5 = 56) {g : GS} (hss : SSs Z ⟨none, (defOf 8).2.names⟩ (defOf 8).1 g) : FnOk Z 5 ⟨unbs 7, 1, 1, g⟩ := by
  refine ⟨⟨_, _, _, [], by rw [hfa]; exact KX 56 _ rfl, rfl, ⟨55, _, _, _, rfl, KX 55 _ rfl, rfl, rfl⟩, rfl, rfl, rfl, rfl, rfl, rfl, rfl, hss, fun s vals _ h1 h2 => ?_, ?_, ?_, fun j _ h => absurd (unbs_get 7 j) h⟩⟩
  · match vals, h1, h2 with
    | [a], _, _ => exact BindsTo.of_eq rfl
  · dsimp only; decide +kernel
  · dsimp only; decide +kernel
theorem fn6 (Z : Base) {P : Params} (KX : (hd.heap_39 P).In Z.h₀) (hfa : Z.fa 6 = 61) {g : GS} (hss : SSs Z ⟨none, (defOf 9).2.names⟩ (defOf 9).1 g) : FnOk Z 6 ⟨unbs 9, 1, 1, g⟩ := by
  refine ⟨⟨_, _, _, [], by rw [hfa]; exact KX 61 _ rfl, rfl, ⟨60, _, _, _, rfl, KX 60 _ rfl, rfl, rfl⟩, rfl, rfl, rfl, rfl, rfl, rfl, rfl, hss, fun s vals _ h1 h2 => ?_, ?_, ?_, fun j _ h => absurd (unbs_get 9 j) h⟩⟩
  · match vals, h1, h2 with
    | [a], _, _ => exact BindsTo.of_eq rfl
  · dsimp only; decide +kernel
  · dsimp only; decide +kernel
theorem keyNs {P : Params} {t : Tok} {h : Heap} {D : Addr} {ep : Nat} (e : h.get? D = some { cls := .type "dict", data := .dict #[{ hash := PyData.keyHash P (Str.ofString "key"), key := .str (Str.ofString "key") t, val := .none }] ep }) : ∃ m, h.Ns D m ∧ m (Str.ofString "key") = some .none := by
  refine ⟨nsFind #[{ hash := PyData.keyHash P (Str.ofString "key"), key := .str (Str.ofString "key") t, val := .none }], ⟨_, _, _, e, rfl, ?_, fun _ => rfl⟩, ?_⟩
  · intro e he
    simp only [List.mem_toArray, List.mem_singleton] at he
    subst he
    exact ⟨_, _, rfl⟩
  · with_unfolding_all rfl
theorem dfl_bs {n j : Nat} (hj : 2 ≤ j) (h : nthD (DV.unb :: .unb :: .int 0 :: .non :: .non :: unbs n) j ≠ .unb) {t : Tok} : ∃ v, [Value.none, .none, .int 0 t, .none, .none][j]? = some v ∧ ∀ hp, V [] hp v (nthD (DV.unb :: .unb :: .int 0 :: .non :: .non :: unbs n) j) := by
  match j, hj, h with
  | 2, _, _ => exact ⟨_, rfl, fun _ => ⟨t, rfl⟩⟩
  | 3, _, _ => exact ⟨_, rfl, fun _ => rfl⟩
  | 4, _, _ => exact ⟨_, rfl, fun _ => rfl⟩
  | j + 5, _, h => exact absurd (unbs_get n j) h
theorem fn2 (Z : Base) {P : Params} (KX : (hd.heap_39 P).In Z.h₀) (hfa : Z.fa 2 = 37) {g : GS} (hss : SSs Z ⟨none, (defOf 4).2.names⟩ (defOf 4).1 g) : FnOk Z 2 ⟨.unb :: .unb :: .int 0 :: .non :: .non :: unbs 1, 2, 4, g⟩ := by
  refine ⟨⟨_, _, _, [.none, .none, .int 0 211, .none, .none], by rw [hfa]; exact KX 37 _ rfl, rfl, ⟨36, _, _, _, rfl, KX 36 _ rfl, rfl, rfl⟩, rfl, rfl, rfl, rfl, rfl, rfl, rfl, hss, fun s vals hk h1 h2 => ?_, ?_, ?_, fun j hj h => dfl_bs hj h⟩⟩
  · obtain ⟨m, hm, hv⟩ := keyNs (hk _ _ (KX 30 _ rfl))
    have hd' := hk _ _ (KX 29 _ rfl)
    match vals, h1, h2 with
    | [a, b], _, _ =>
      intro M A E Q hq
      show wpAny M A (seqItems? (.ref 29) >>= _) Q E s
      refine wpAny_bind (wpAny_seqItems hd' rfl ?_)
      repeat (first | exact hq | refine wpAny_pure ?_ | (refine wpAny_nsGet hm ?_; rw [hv]) | refine wpAny_bind ?_)
    | [a, b, c], _, _ =>
      intro M A E Q hq
      show wpAny M A (seqItems? (.ref 29) >>= _) Q E s
      refine wpAny_bind (wpAny_seqItems hd' rfl ?_)
      repeat (first | exact hq | refine wpAny_pure ?_ | (refine wpAny_nsGet hm ?_; rw [hv]) | refine wpAny_bind ?_)
    | [a, b, c, d], _, _ =>
      intro M A E Q hq
      show wpAny M A (seqItems? (.ref 29) >>= _) Q E s
      refine wpAny_bind (wpAny_seqItems hd' rfl ?_)
      repeat (first | exact hq | refine wpAny_pure ?_ | (refine wpAny_nsGet hm ?_; rw [hv]) | refine wpAny_bind ?_)
  · dsimp only; decide +kernel
  · dsimp only; decide +kernel
theorem fn3 (Z : Base) {P : Params} (KX : (hd.heap_39 P).In Z.h₀) (hfa : Z.fa 3 = 46) {g : GS} (hss : SSs Z ⟨none, (defOf 5).2.names⟩ (defOf 5).1 g) : FnOk Z 3 ⟨.unb :: .unb :: .int 0 :: .non :: .non :: unbs 3, 2, 4, g⟩ := by
  refine ⟨⟨_, _, _, [.none, .none, .int 0 224, .none, .none], by rw [hfa]; exact KX 46 _ rfl, rfl, ⟨45, _, _, _, rfl, KX 45 _ rfl, rfl, rfl⟩, rfl, rfl, rfl, rfl, rfl, rfl, rfl, hss, fun s vals hk h1 h2 => ?_, ?_, ?_, fun j hj h => dfl_bs hj h⟩⟩
  · obtain ⟨m, hm, hv⟩ := keyNs (hk _ _ (KX 39 _ rfl))
    have hd' := hk _ _ (KX 38 _ rfl)
    match vals, h1, h2 with
    | [a, b], _, _ =>
      intro M A E Q hq
      show wpAny M A (seqItems? (.ref 38) >>= _) Q E s
      refine wpAny_bind (wpAny_seqItems hd' rfl ?_)
      repeat (first | exact hq | refine wpAny_pure ?_ | (refine wpAny_nsGet hm ?_; rw [hv]) | refine wpAny_bind ?_)
    | [a, b, c], _, _ =>
      intro M A E Q hq
      show wpAny M A (seqItems? (.ref 38) >>= _) Q E s
      refine wpAny_bind (wpAny_seqItems hd' rfl ?_)
      repeat (first | exact hq | refine wpAny_pure ?_ | (refine wpAny_nsGet hm ?_; rw [hv]) | refine wpAny_bind ?_)
    | [a, b, c, d], _, _ =>
      intro M A E Q hq
      show wpAny M A (seqItems? (.ref 38) >>= _) Q E s
      refine wpAny_bind (wpAny_seqItems hd' rfl ?_)
      repeat (first | exact hq | refine wpAny_pure ?_ | (refine wpAny_nsGet hm ?_; rw [hv]) | refine wpAny_bind ?_)
  · dsimp only; decide +kernel
  · dsimp only; decide +kernel
end Mine

set_option maxRecDepth 1000000
set_option maxHeartbeats 0
namespace Mine
open PySem PySem.W

noncomputable def T : List FD := [⟨unbs 8, 2, 2, p0.1⟩, ⟨unbs 3, 1, 1, p1.1⟩, ⟨.unb :: .unb :: .int 0 :: .non :: .non :: unbs 1, 2, 4, p2.1⟩, ⟨.unb :: .unb :: .int 0 :: .non :: .non :: unbs 3, 2, 4, p3.1⟩,
  ⟨unbs 6, 1, 1, p4.1⟩, ⟨unbs 7, 1, 1, p5.1⟩, ⟨unbs 9, 1, 1, p6.1⟩]
def isT : DV → Bool
  | .bool true => true
  | _ => false
def f0 (n : Nat) : Sl := .unb :: .int n :: unbs 10
theorem r1 : p7.1 (sem T 50) (f0 1) [] (fun _ _ => false) (fun d _ => isT d) = true := by decide +kernel
theorem r2 : p7.1 (sem T 50) (f0 2) [] (fun _ _ => false) (fun d _ => isT d) = true := by decide +kernel
theorem r3 : p7.1 (sem T 50) (f0 3) [] (fun _ _ => false) (fun d _ => isT d) = true := by decide +kernel
theorem r4 : p7.1 (sem T 50) (f0 4) [] (fun _ _ => false) (fun d _ => isT d) = true := by decide +kernel
theorem r5 : p7.1 (sem T 50) (f0 5) [] (fun _ _ => false) (fun d _ => isT d) = true := by decide +kernel
theorem r6 : p7.1 (sem T 50) (f0 6) [] (fun _ _ => false) (fun d _ => isT d) = true := by decide +kernel
end Mine

set_option maxRecDepth 100000
set_option maxHeartbeats 0
namespace Mine
open PySem PySem.W PyProof.Rows PySem.Calls PySem.SeqAt

theorem at?_get : ∀ {l : List Str} {x : Str} {n : Nat}, at? l x = some n → l[n]? = some x
  | y :: r, x, n, h => by
    unfold at? at h
    by_cases e : y = x
    · rw [if_pos e] at h
      cases h
      subst e; rfl
    · rw [if_neg e] at h
      cases hi : at? r x with
      | none => rw [hi] at h; cases h
      | some p =>
        rw [hi] at h
        cases h
        simpa using at?_get (l := r) (x := x) (n := p) hi
def fas : List Addr := [21, 28, 37, 46, 51, 56, 61]
def faOf (n : Nat) : Addr := fas.getD n 0
theorem nsAt {h : Heap} {P : Params} {mg : Str → Option Value} {o : Obj} {es : Array DictEntry} {ep : Nat} (g : h.Ns mainGlobals mg) (ho : h.get? 3 = some o) (hd : o.data = .dict es ep) (x : Str) : mg x = nsFind es x := by
  obtain ⟨o', es', ep', e, hd', _, hf⟩ := g
  have : o' = o := Option.some.inj (e.symm.trans ho)
  subst this
  rw [hd] at hd'
  cases hd'
  exact (hf x).symm
theorem globs {h : Heap} {P : Params} {mg : Str → Option Value} (KX : (hd.heap_39 P).In h) (g : h.Ns mainGlobals mg) : (∀ x ∈ bis.map (·.1), mg x = none) ∧ mg "sum" = none ∧ (∀ n x, defs[n]? = some x → mg x = some (.ref (faOf n))) := by
  have key := nsAt (P := P) g (KX 3 _ rfl) rfl
  refine ⟨fun x hx => ?_, ?_, fun n x hx => ?_⟩
  · rw [key]
    simp only [bis, List.map_cons, List.map_nil, List.mem_cons, List.not_mem_nil, or_false] at hx
    rcases hx with rfl | rfl | rfl | rfl | rfl | rfl | rfl <;> with_unfolding_all rfl
  · rw [key]; with_unfolding_all rfl
  · rw [key]
    match n, hx with
    | 0, hx => cases hx; with_unfolding_all rfl
    | 1, hx => cases hx; with_unfolding_all rfl
    | 2, hx => cases hx; with_unfolding_all rfl
    | 3, hx => cases hx; with_unfolding_all rfl
    | 4, hx => cases hx; with_unfolding_all rfl
    | 5, hx => cases hx; with_unfolding_all rfl
    | 6, hx => cases hx; with_unfolding_all rfl
    | n + 7, hx => cases hx
theorem boots : (∀ p ∈ bis, p.1 ≠ "__name__" ∧ bootBuiltins p.1 = some p.2) ∧ bootBuiltins "sum" = some (.builtin "sum") := by
  refine ⟨fun p hp => ?_, by decide +kernel⟩
  simp only [bis, List.mem_cons, List.not_mem_nil, or_false] at hp
  rcases hp with rfl | rfl | rfl | rfl | rfl | rfl | rfl <;> exact ⟨by decide +kernel, by decide +kernel⟩
theorem fnAt {h : Heap} {P : Params} (KX : (hd.heap_39 P).In h) (n : Nat) (x : Str) (hx : defs[n]? = some x) : ∃ o fd, h.get? (faOf n) = some o ∧ o.data = .func fd := by
  match n, hx with
  | 0, _ => exact ⟨_, _, KX 21 _ rfl, rfl⟩
  | 1, _ => exact ⟨_, _, KX 28 _ rfl, rfl⟩
  | 2, _ => exact ⟨_, _, KX 37 _ rfl, rfl⟩
  | 3, _ => exact ⟨_, _, KX 46 _ rfl, rfl⟩
  | 4, _ => exact ⟨_, _, KX 51 _ rfl, rfl⟩
  | 5, _ => exact ⟨_, _, KX 56 _ rfl, rfl⟩
  | 6, _ => exact ⟨_, _, KX 61 _ rfl, rfl⟩
  | n + 7, hx => cases hx
/-- the ground of the call -/
def baseOf (prog : Program) (w : World) (h : Heap) (mg mb : Str → Option Value) (KX : (hd.heap_39 w.params).In h) (g : h.Ns mainGlobals mg) (b : h.Ns builtinsNs mb) (bo : ∀ x : Str, x ≠ "__name__" → mb x = bootBuiltins x) (lim : h.NoLimit) : Base where
  prog := prog
  w := w
  h₀ := h
  mg := mg
  mb := mb
  fa := faOf
  lim := lim
  big := ⟨21, _, by decide, KX 21 _ rfl⟩
  g := g
  b := b
  bi := fun x v hx => ⟨(globs KX g).1 x (List.mem_map.mpr ⟨_, hx, rfl⟩), by rw [bo x (boots.1 _ hx).1]; exact (boots.1 _ hx).2⟩
  fn := fun x n hx => ⟨(globs KX g).2.2 n x (at?_get hx), fnAt KX n x (at?_get hx)⟩
end Mine

set_option maxRecDepth 100000
set_option maxHeartbeats 0
namespace Mine
open PySem PySem.W PyProof.Rows PySem.Calls PySem.SeqAt

section
variable {prog : Program} {w : World} {h : Heap} {mg mb : Str → Option Value}
theorem fnsOk (KX : (hd.heap_39 w.params).In h) (g : h.Ns mainGlobals mg) (b : h.Ns builtinsNs mb) (bo : ∀ x : Str, x ≠ "__name__" → mb x = bootBuiltins x) (lim : h.NoLimit) : ∀ n D, T[n]? = some D → FnOk (baseOf prog w h mg mb KX g b bo lim) n D := by
  intro n D hD
  have K' : (hd.heap_39 w.params).In (baseOf prog w h mg mb KX g b bo lim).h₀ := KX
  match n, hD with
  | 0, hD => cases hD; exact fn0 _ K' rfl (p0.2 _).h
  | 1, hD => cases hD; exact fn1 _ K' rfl (p1.2 _).h
  | 2, hD => cases hD; exact fn2 _ K' rfl (p2.2 _).h
  | 3, hD => cases hD; exact fn3 _ K' rfl (p3.2 _).h
  | 4, hD => cases hD; exact fn4 _ K' rfl (p4.2 _).h
  | 5, hD => cases hD; exact fn5 _ K' rfl (p5.2 _).h
  | 6, hD => cases hD; exact fn6 _ K' rfl (p6.2 _).h
  | n + 7, hD => cases hD
theorem cells_apart (L : Nat) (names : List (Str × NameKind)) : (cellsFrom (L + 1) names []).Pairwise (fun x y => x.2 ≠ y.2) ∧ ∀ n c, (n, c) ∈ cellsFrom (L + 1) names [] → L < c := by
  have go : ∀ (l : List (Str × NameKind)) (n : Nat) (acc : List (Str × Addr)), acc.Pairwise (fun x y => x.2 ≠ y.2) → (∀ p ∈ acc, L < p.2 ∧ p.2 < n) → L < n →
      (cellsFrom n l acc).Pairwise (fun x y => x.2 ≠ y.2) ∧ ∀ p ∈ cellsFrom n l acc, L < p.2 := by
    intro l
    induction l with
    | nil => intro n acc h1 h2 _; exact ⟨h1, fun p hp => (h2 p hp).1⟩
    | cons y r ih =>
      intro n acc h1 h2 hn
      obtain ⟨x, k⟩ := y
      unfold cellsFrom
      split
      · refine ih (n + 1) _ (List.pairwise_cons.mpr ⟨fun p hp => Nat.ne_of_gt (h2 p hp).2, h1⟩) (fun p hp => ?_) (Nat.lt_succ_of_lt hn)
        rcases List.mem_cons.mp hp with rfl | hp
        · exact ⟨hn, Nat.lt_succ_self _⟩
        · exact ⟨(h2 p hp).1, Nat.lt_succ_of_lt (h2 p hp).2⟩
      · exact ih n acc h1 h2 hn
  obtain ⟨a, b⟩ := go names (L + 1) [] List.Pairwise.nil (fun _ h => nomatch h) (Nat.lt_succ_self L)
  exact ⟨a, fun n c h => b (n, c) h⟩
theorem isT_iff {d : DV} (h : isT d = true) : d = .bool true := by
  cases d with
  | bool b =>
    cases b with
    | true => rfl
    | false => cases h
  | _ => cases h
theorem runs {r : Nat} (h1 : 1 ≤ r) (h6 : r ≤ 6) : p7.1 (sem T 50) (f0 r) [] (fun _ _ => false) (fun d _ => isT d) = true := by
  match r, h1, h6 with
  | 1, _, _ => exact r1
  | 2, _, _ => exact r2
  | 3, _, _ => exact r3
  | 4, _, _ => exact r4
  | 5, _, _ => exact r5
  | 6, _, _ => exact r6
theorem intsItems {vs : List Value} {ns : List Int} (h : IntsAre vs ns) : ∃ xs : List (Int × Tok), vs = xs.map (fun p => Value.int p.1 p.2) := by
  induction h with
  | nil => exact ⟨[], rfl⟩
  | cons n t h ih =>
    obtain ⟨xs, e⟩ := ih
    exact ⟨(n, t) :: xs, by rw [e]; rfl⟩
theorem lawGo {s₁ : Shared} {h₁ : Heap} {tk₁ : Nat} {nm : Str} {fa : Addr} {cd : Value} {la : Addr} {vs : List Value} {ns : List Int} {m cm : Str → Option Value} {cells : List (Addr × Obj)}
    (KX : (hd.heap_39 w.params).In s₁.heap) (g : s₁.heap.Ns mainGlobals mg) (b : s₁.heap.Ns builtinsNs mb) (bo : ∀ x : Str, x ≠ "__name__" → mb x = bootBuiltins x) (lim : s₁.heap.NoLimit)
    (F : Fr s₁.heap s₁.heap.objs.size h₁ m) (hm : m (Str.ofString "script") = some (.ref la)) (N0 : News s₁.heap s₁.heap.objs.size h₁ cells) (X0 : CellsAre cm (cellsFrom (s₁.heap.objs.size + 1) (defOf 10).2.names []) cells)
    (hL : s₁.heap.IsList la vs.toArray) (hI : IntsAre vs ns) (Q : Flow → Shared → Prop) (E : Value → Shared → Prop)
    (hQ : ∀ h' m' tk', Fr s₁.heap s₁.heap.objs.size h' m' → Q (.ret (.bool true)) { s₁ with heap := h', toks := tk' }) :
    wpAny (model prog w) (callerA.deeper (envOfC nm (defOf 10).2 s₁.heap.objs.size fa cd)) (execs (defOf 10).1 (envOfC nm (defOf 10).2 s₁.heap.objs.size fa cd)) Q E { s₁ with heap := h₁, toks := tk₁ } := by
  have hA : Room 50 (callerA.deeper (envOfC nm (defOf 10).2 s₁.heap.objs.size fa cd)) := ⟨rfl, by show 1 + claimMargin + 1 + 50 < 900; decide +kernel, by show 4 + 3 + 3 * 50 + 500 < cLine; decide +kernel⟩
  obtain ⟨hap, hab⟩ := cells_apart s₁.heap.objs.size (defOf 10).2.names
  have X := Cl.of_news (own := []) N0 X0 hap hab
  have frL : s₁.heap.get? s₁.heap.objs.size = none := fresh_none _
  have cellN : ∀ y b, (envOfC nm (defOf 10).2 s₁.heap.objs.size fa cd).cells.lookup y = some b → s₁.heap.get? b = none := fun y b hb => Heap.get?_none_of_le (Nat.le_of_lt (X.above y b (lookup_mem hb)))
  have I : IN (baseOf prog w s₁.heap mg mb KX g b bo lim) ⟨none, (defOf 10).2.names⟩ (envOfC nm (defOf 10).2 s₁.heap.objs.size fa cd) [] (unbs 12) [] [] h₁ := by
    refine ⟨F.keep, ⟨rfl, List.nodup_nil, fun n a o hn => by simp at hn⟩, ⟨rfl, rfl, rfl, fun y p hy => ?_, fun y hy => ?_, fun _ _ => rfl, fun y i hy => ?_, ⟨m, F.ns, fun y p hy hk => ?_⟩, fun y p hy hk => ?_, fun y q => ?_, fun y z a hy hz => ?_⟩, frL, fun b hb => ?_, (fun b hb => by cases hb), (fun q => by cases q), (fun b _ q => by cases q)⟩
    · obtain ⟨j, kd, hi, _, hkk⟩ := slotF_idx (show slotF (defOf 10).2.names y = some p from hy)
      have := idx_lookup hi
      rcases hkk with rfl | rfl
      · exact .inl this
      · exact .inr this
    · have : (defOf 10).2.names.lookup y = some .globalImplicit := by simpa [globOf] using hy
      exact this
    · obtain ⟨j, kd, hi, e, _⟩ := slotF_idx (show slotF (defOf 10).2.names y = some (.c i) from hy)
      cases e
    · obtain ⟨j, kd, hi, rfl, _⟩ := slotF_idx (show slotF (defOf 10).2.names y = some p from hy)
      exact .inl (unbs_get 12 j)
    · obtain ⟨j, kd, hi, rfl, _⟩ := slotF_idx (show slotF (defOf 10).2.names y = some p from hy)
      have hk' : (defOf 10).2.names.lookup y = some .cell := hk
      obtain ⟨a, ha⟩ := Option.isSome_iff_exists.mp (cellsFrom_some (defOf 10).2.names (s₁.heap.objs.size + 1) [] y (.inl (mem_lookup hk')))
      exact ⟨a, _, ha, X.cell y a ha, .inl (unbs_get 12 j)⟩
    · exact absurd (X.above y _ (lookup_mem q)) (Nat.lt_irrefl _)
    · exact apart_inj X.apart (lookup_mem hy) (lookup_mem hz)
    · obtain ⟨y, p, _, _, hl⟩ := hb
      exact cellN y b hl
  obtain ⟨xl, ex⟩ := intsItems hI
  have ex' : vs.toArray = intItems xl.toArray := by rw [ex]; simp [intItems]
  generalize xl.toArray = xs at ex'
  refine wpAny_mono (E := NoE) ?_ (fun _ _ x => x) fun _ _ x => x.elim
  refine (show wpAny _ _ (execs (Stmt.Assign [.Name (Str.ofString "long") _] (.BinOp (.Constant (.int 1) _ _) .Add (.BinOp (.Call (.Name (Str.ofString "sum") _) [.Name (Str.ofString "script") _] [] _) .Mod (.Constant (.int 6) _ _) _) _) _ :: (defOf 10).1.tail) _) _ _ _ from wpAny_execs_cons (wpAny_Assign_Name ?_))
  refine wpAny_BinOp (wpAny_Constant_int (wpAny_BinOp (Call_ ?_)))
  refine Name_function_global (x := Str.ofString "sum") rfl (by with_unfolding_all rfl) (loadGlobal_builtin (mg := mg) (mb := mb) (g.keeps F.keep) (globs KX g).2.1 (b.keeps F.keep) (by rw [bo _ (by decide +kernel)]; exact boots.2) ?_) (by decide +kernel)
  refine PyProof.Rows.callWith_builtin1 (one (Z := baseOf prog w s₁.heap mg mb KX g b bo lim) (fun _ _ => rfl) (wpAny_Name (wpAny_loadName_local (env := envOfC nm (defOf 10).2 s₁.heap.objs.size fa cd) rfl (by with_unfolding_all rfl) F.ns hm ?_) (by decide +kernel)))
  refine sum_intListG (xs := xs) hA.hd (by rw [← ex']; exact list_keep hL fun ob e => F.keep _ _ e) fun h₂ tk₂ t₂ k₂ => ?_
  refine wpAny_Constant_int (mod_int' (by decide) (PyProof.Rows.add_int ?_))
  have hr : ∃ r : Nat, 1 ≤ r ∧ r ≤ 6 ∧ (1 : Int) + (preSum (numAt xs) xs.size).fmod 6 = (r : Int) := by
    have e6 : (preSum (numAt xs) xs.size).fmod 6 = (preSum (numAt xs) xs.size) % 6 := Int.fmod_eq_emod_of_nonneg _ (by decide)
    exact ⟨(1 + (preSum (numAt xs) xs.size) % 6).toNat, by omega, by omega, by rw [e6]; omega⟩
  obtain ⟨r, hr1, hr6, er⟩ := hr
  rw [er]
  have I₂ := I.grow k₂
  refine storeGo (Z := baseOf prog w s₁.heap mg mb KX g b bo lim) (cx := ⟨none, (defOf 10).2.names⟩) (x := Str.ofString "long") (p := .f 1) (d := .int r) (by with_unfolding_all rfl) (.inr rfl) I₂ ⟨_, rfl⟩ _ fun h₃ tk₃ I₃ E₃ => ?_
  refine (p7.2 (baseOf prog w s₁.heap mg mb KX g b bo lim)).h (s := { s₁ with heap := h₃, toks := tk₃ }) (RS.sem (fnsOk KX g b bo lim) 50) hA I₃ (runs hr1 hr6) _ (fun f' σ' α' h' tk' q I' E' => by cases q) fun d σ' v α' h' tk' f' q I' E' V' => ?_
  have hd' := isT_iff q
  subst hd'
  cases V'
  obtain ⟨m', hm', _⟩ := I'.fr.ns
  exact hQ h' m' tk' ⟨hm', I'.base, Nat.le_refl _⟩
end
end Mine

set_option maxRecDepth 100000
set_option maxHeartbeats 8000000
theorem PySem.Challenge.cw_hv0001_01_holds : PySem.Challenge.rw_hv0001_01.Holds := by
  exact hd (by
    w_strict k_go0
    rename Frag.In _ _ => KX
    rename Top _ _ _ _ _ _ => T
    rename Fr _ _ _ _ => F
    rename News _ _ _ _ => N0
    rename CellsAre _ _ _ => X0
    rename Heap.IsList _ _ _ => hL
    rename IntsAre _ _ => hI
    refine Mine.lawGo KX T.g T.b T.builtins T.nolimit F ?_ N0 X0 hL hI _ _ fun h' m' tk' F' => goodW_bool F' ?_ ?_ ?_
    · with_unfolding_all rfl
    · assumption
    · intro cls; with_unfolding_all rfl
    · with_unfolding_all rfl)

