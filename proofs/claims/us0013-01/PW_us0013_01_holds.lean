import PyProof.Rows.All
import Wide.All
import OpenK.AllK
import Wide.FinOn
import KE.KLcPair
import Lean
import PySem.Challenge.RW_us0013_01
set_option Elab.async false
section
open PySem PySem.W PyProof.Rows PySem.Calls PySem.Spec
set_option maxRecDepth 100000
namespace Mine
inductive AV where
  | none
  | bool (b : Bool)
  | int (i : Int)
  | str (x : List Nat)
  | ref (i : Nat)

inductive AO where
  | list (xs : List AV)
  | tuple (xs : List AV)
  | inst (c d : Nat)
  | attrs (k : List Nat) (v : AV)
  | edict

structure AS where
  loc : List (Option AV)
  cmp : List (Option AV)
  heap : List AO

/- plain functions that the kernel runs fast: by the recursors themselves -/
section
variable {α β γ : Type}
noncomputable def nthR (l : List α) : Nat → Option α := @List.rec α (fun _ => Nat → Option α) (fun _ => none) (fun a _ ih i => @Nat.rec (fun _ => Option α) (some a) (fun j _ => ih j) i) l
theorem nthR_eq (l : List α) (i : Nat) : nthR l i = l[i]? := by
  induction l generalizing i with
  | nil => rfl
  | cons a l ih => cases i with
    | zero => rfl
    | succ i => exact ih i
noncomputable def setR (l : List α) (v : α) : Nat → List α := @List.rec α (fun _ => Nat → List α) (fun _ => []) (fun a t ih i => @Nat.rec (fun _ => List α) (v :: t) (fun j _ => a :: ih j) i) l
theorem setR_eq (l : List α) (v : α) (i : Nat) : setR l v i = l.set i v := by
  induction l generalizing i with
  | nil => rfl
  | cons a l ih => cases i with
    | zero => rfl
    | succ i => exact congrArg (a :: ·) (ih i)
noncomputable def lenR (l : List α) : Nat := @List.rec α (fun _ => Nat) 0 (fun _ _ ih => Nat.add ih 1) l
theorem lenR_eq (l : List α) : lenR l = l.length := by
  induction l with
  | nil => rfl
  | cons a l ih => exact congrArg Nat.succ ih
noncomputable def appR (l r : List α) : List α := @List.rec α (fun _ => List α) r (fun a _ ih => a :: ih) l
theorem appR_eq (l r : List α) : appR l r = l ++ r := by
  induction l with
  | nil => rfl
  | cons a l ih => exact congrArg (a :: ·) ih
noncomputable def delR (l : List α) : Nat → List α := @List.rec α (fun _ => Nat → List α) (fun _ => []) (fun a t ih i => @Nat.rec (fun _ => List α) t (fun j _ => a :: ih j) i) l
theorem delR_eq (l : List α) (i : Nat) : delR l i = l.eraseIdx i := by
  induction l generalizing i with
  | nil => rfl
  | cons a l ih => cases i with
    | zero => rfl
    | succ i => exact congrArg (a :: ·) (ih i)
noncomputable def onSome (o : Option α) (k : α → Option β) : Option β := @Option.rec α (fun _ => Option β) none k o
theorem onSome_some {o : Option α} {k : α → Option β} {r : β} (h : onSome o k = some r) : ∃ a, o = some a ∧ k a = some r := by
  cases o with
  | none => cases h
  | some a => exact ⟨a, rfl, h⟩
noncomputable def onBool (b : Bool) (x : Option β) : Option β := @Bool.rec (fun _ => Option β) none x b
theorem onBool_some {b : Bool} {x : Option β} {r : β} (h : onBool b x = some r) : b = true ∧ x = some r := by
  cases b with
  | false => cases h
  | true => exact ⟨rfl, h⟩
noncomputable def onInt (a : AV) (k : Int → Option β) : Option β := @AV.rec (fun _ => Option β) none (fun _ => none) k (fun _ => none) (fun _ => none) a
theorem onInt_some {a : AV} {k : Int → Option β} {r : β} (h : onInt a k = some r) : ∃ i, a = .int i ∧ k i = some r := by
  cases a <;> first | exact ⟨_, rfl, h⟩ | cases h
noncomputable def onStr (a : AV) (k : List Nat → Option β) : Option β := @AV.rec (fun _ => Option β) none (fun _ => none) (fun _ => none) k (fun _ => none) a
theorem onStr_some {a : AV} {k : List Nat → Option β} {r : β} (h : onStr a k = some r) : ∃ i, a = .str i ∧ k i = some r := by
  cases a <;> first | exact ⟨_, rfl, h⟩ | cases h
noncomputable def onRef (a : AV) (k : Nat → Option β) : Option β := @AV.rec (fun _ => Option β) none (fun _ => none) (fun _ => none) (fun _ => none) k a
theorem onRef_some {a : AV} {k : Nat → Option β} {r : β} (h : onRef a k = some r) : ∃ i, a = .ref i ∧ k i = some r := by
  cases a <;> first | exact ⟨_, rfl, h⟩ | cases h
noncomputable def onList (o : Option AO) (k : List AV → Option β) : Option β := @Option.rec AO (fun _ => Option β) none (fun o => @AO.rec (fun _ => Option β) k (fun _ => none) (fun _ _ => none) (fun _ _ => none) none o) o
theorem onList_some {o : Option AO} {k : List AV → Option β} {r : β} (h : onList o k = some r) : ∃ xs, o = some (.list xs) ∧ k xs = some r := by
  cases o with
  | none => cases h
  | some o => cases o <;> first | exact ⟨_, rfl, h⟩ | cases h
noncomputable def onTuple (o : Option AO) (k : List AV → Option β) : Option β := @Option.rec AO (fun _ => Option β) none (fun o => @AO.rec (fun _ => Option β) (fun _ => none) k (fun _ _ => none) (fun _ _ => none) none o) o
theorem onTuple_some {o : Option AO} {k : List AV → Option β} {r : β} (h : onTuple o k = some r) : ∃ xs, o = some (.tuple xs) ∧ k xs = some r := by
  cases o with
  | none => cases h
  | some o => cases o <;> first | exact ⟨_, rfl, h⟩ | cases h
noncomputable def onInst (o : Option AO) (k : Nat → Nat → Option β) : Option β := @Option.rec AO (fun _ => Option β) none (fun o => @AO.rec (fun _ => Option β) (fun _ => none) (fun _ => none) k (fun _ _ => none) none o) o
theorem onInst_some {o : Option AO} {k : Nat → Nat → Option β} {r : β} (h : onInst o k = some r) : ∃ c d, o = some (.inst c d) ∧ k c d = some r := by
  cases o with
  | none => cases h
  | some o => cases o <;> first | exact ⟨_, _, rfl, h⟩ | cases h
noncomputable def onAttrs (o : Option AO) (k : List Nat → AV → Option β) : Option β := @Option.rec AO (fun _ => Option β) none (fun o => @AO.rec (fun _ => Option β) (fun _ => none) (fun _ => none) (fun _ _ => none) k none o) o
theorem onAttrs_some {o : Option AO} {k : List Nat → AV → Option β} {r : β} (h : onAttrs o k = some r) : ∃ c d, o = some (.attrs c d) ∧ k c d = some r := by
  cases o with
  | none => cases h
  | some o => cases o <;> first | exact ⟨_, _, rfl, h⟩ | cases h
noncomputable def onEd (o : Option AO) (k : Option β) : Option β := @Option.rec AO (fun _ => Option β) none (fun o => @AO.rec (fun _ => Option β) (fun _ => none) (fun _ => none) (fun _ _ => none) (fun _ _ => none) k o) o
theorem onEd_some {o : Option AO} {k : Option β} {r : β} (h : onEd o k = some r) : o = some .edict ∧ k = some r := by
  cases o with
  | none => cases h
  | some o => cases o <;> first | exact ⟨rfl, h⟩ | cases h
noncomputable def onNat (i : Int) (k : Nat → Option β) : Option β := @Int.rec (fun _ => Option β) k (fun _ => none) i
theorem onNat_some {i : Int} {k : Nat → Option β} {r : β} (h : onNat i k = some r) : ∃ n : Nat, i = (n : Int) ∧ k n = some r := by
  cases i with
  | ofNat n => exact ⟨n, rfl, h⟩
  | negSucc n => cases h
end
noncomputable def addI (x y : Int) : Int := @Int.rec (fun _ => Int) (fun m => @Int.rec (fun _ => Int) (fun n => .ofNat (Nat.add m n)) (fun _ => Int.add x y) y) (fun _ => Int.add x y) x
theorem addI_eq (x y : Int) : addI x y = x + y := by cases x <;> cases y <;> rfl
noncomputable def subI (x y : Int) : Int := @Int.rec (fun _ => Int) (fun m => @Int.rec (fun _ => Int) (fun n => @Bool.rec (fun _ => Int) (Int.sub x y) (.ofNat (Nat.sub m n)) (Nat.ble n m)) (fun _ => Int.sub x y) y) (fun _ => Int.sub x y) x
theorem subI_eq (x y : Int) : subI x y = x - y := by
  cases x with
  | negSucc m => rfl
  | ofNat m => cases y with
    | negSucc n => rfl
    | ofNat n =>
      show @Bool.rec (fun _ => Int) _ _ (Nat.ble n m) = _
      cases h : Nat.ble n m with
      | false => rfl
      | true =>
        have := Nat.le_of_ble_eq_true h
        show ((m - n : Nat) : Int) = (m : Int) - (n : Int)
        omega
noncomputable def modI (x y : Int) : Int := @Int.rec (fun _ => Int) (fun m => @Int.rec (fun _ => Int) (fun n => .ofNat (Nat.mod m n)) (fun _ => Int.fmod x y) y) (fun _ => Int.fmod x y) x
theorem modI_eq (x y : Int) : modI x y = x.fmod y := by
  cases x with
  | negSucc m => rfl
  | ofNat m => cases y with
    | negSucc n => rfl
    | ofNat n => show ((m % n : Nat) : Int) = (m : Int).fmod (n : Int); rw [Int.fmod_eq_emod_of_nonneg _ (Int.natCast_nonneg n)]; rfl
noncomputable def divI (x y : Int) : Int := @Int.rec (fun _ => Int) (fun m => @Int.rec (fun _ => Int) (fun n => .ofNat (Nat.div m n)) (fun _ => Int.fdiv x y) y) (fun _ => Int.fdiv x y) x
theorem divI_eq (x y : Int) : divI x y = x.fdiv y := by
  cases x with
  | negSucc m => rfl
  | ofNat m => cases y with
    | negSucc n => rfl
    | ofNat n => show ((m / n : Nat) : Int) = (m : Int).fdiv (n : Int); rw [Int.fdiv_eq_ediv_of_nonneg _ (Int.natCast_nonneg n)]; rfl
noncomputable def leI (x y : Int) : Bool := @Int.rec (fun _ => Bool) (fun m => @Int.rec (fun _ => Bool) (fun n => Nat.ble m n) (fun _ => false) y) (fun m => @Int.rec (fun _ => Bool) (fun _ => true) (fun n => Nat.ble n m) y) x
theorem leI_eq (x y : Int) : leI x y = decide (x ≤ y) := by
  have h : leI x y = true ↔ x ≤ y := by
    cases x with
    | ofNat m => cases y with
      | ofNat n => show Nat.ble m n = true ↔ ((m : Int) ≤ (n : Int)); rw [Nat.ble_eq]; omega
      | negSucc n => show false = true ↔ _; constructor <;> intro h <;> first | cases h | (exfalso; have : (m : Int) ≤ Int.negSucc n := h; omega)
    | negSucc m => cases y with
      | ofNat n => show true = true ↔ _; constructor <;> intro _ <;> first | rfl | (show Int.negSucc m ≤ (n : Int); omega)
      | negSucc n => show Nat.ble n m = true ↔ _; rw [Nat.ble_eq]; omega
  cases e : leI x y with
  | true => exact (decide_eq_true (h.mp e)).symm
  | false => exact (decide_eq_false (fun q => by rw [h.mpr q] at e; cases e)).symm
noncomputable def eqI (x y : Int) : Bool := @Int.rec (fun _ => Bool) (fun m => @Int.rec (fun _ => Bool) (fun n => Nat.beq m n) (fun _ => false) y) (fun m => @Int.rec (fun _ => Bool) (fun _ => false) (fun n => Nat.beq m n) y) x
theorem eqI_eq (x y : Int) : eqI x y = (x == y) := by
  have h : eqI x y = true ↔ x = y := by
    cases x with
    | ofNat m => cases y with
      | ofNat n => show Nat.beq m n = true ↔ _; rw [Nat.beq_eq]; constructor <;> intro h <;> first | exact congrArg _ h | (cases h; rfl)
      | negSucc n => show false = true ↔ _; constructor <;> intro h <;> cases h
    | negSucc m => cases y with
      | ofNat n => show false = true ↔ _; constructor <;> intro h <;> cases h
      | negSucc n => show Nat.beq m n = true ↔ _; rw [Nat.beq_eq]; constructor <;> intro h <;> first | exact congrArg _ h | (cases h; rfl)
  rw [Bool.eq_iff_iff, h, beq_iff_eq]
noncomputable def eqL (x : List Nat) : List Nat → Bool := @List.rec Nat (fun _ => List Nat → Bool) (fun y => @List.rec Nat (fun _ => Bool) true (fun _ _ _ => false) y) (fun a _ ih y => @List.rec Nat (fun _ => Bool) false (fun b r _ => @Bool.rec (fun _ => Bool) false (ih r) (Nat.beq a b)) y) x
theorem eqL_eq (x : List Nat) : ∀ y, eqL x y = (x == y) := by
  induction x with
  | nil => intro y; cases y <;> rfl
  | cons a x ih =>
    intro y
    cases y with
    | nil => rfl
    | cons b y =>
      show @Bool.rec (fun _ => Bool) false (eqL x y) (Nat.beq a b) = _
      rw [ih y]
      cases h : Nat.beq a b with
      | false =>
        have : a ≠ b := Nat.ne_of_beq_eq_false h
        show false = _
        symm
        rw [beq_eq_false_iff_ne]
        intro e; cases e; exact this rfl
      | true =>
        have : a = b := Nat.eq_of_beq_eq_true h
        subst this
        show (x == y) = _
        simp

def VR (σ : List Addr) : AV → Value → Prop
  | .none, v => v = .none
  | .bool b, v => v = .bool b
  | .int i, v => ∃ t, v = .int i t
  | .str x, v => ∃ t, v = .str ⟨x.toArray⟩ t
  | .ref i, v => ∃ a, σ[i]? = some a ∧ v = .ref a

inductive VRs (σ : List Addr) : List AV → List Value → Prop
  | nil : VRs σ [] []
  | cons {a v as vs} : VR σ a v → VRs σ as vs → VRs σ (a :: as) (v :: vs)

abbrev tupO (its : Array Value) (n : Nat) : Obj := { cls := .type "tuple", data := .seq its n }

def OR (σ : List Addr) : AO → Obj → Prop
  | .list xs, o => ∃ vs n, o = listOf (List.toArray vs) n ∧ VRs σ xs vs
  | .tuple xs, o => ∃ vs n, o = tupO (List.toArray vs) n ∧ VRs σ xs vs
  | .inst c d, o => ∃ a, σ[d]? = some a ∧ o = instObj c a
  | .attrs k v, o => ∃ hsh t n v', o = dictOf [⟨hsh, .str ⟨k.toArray⟩ t, v'⟩] n ∧ VR σ v v'
  | .edict, o => ∃ n, o = dictOf [] n

theorem get_app {α : Type} {l : List α} {i : Nat} {a : α} (h : l[i]? = some a) (τ : List α) : (l ++ τ)[i]? = some a := by
  have hl : i < l.length := (List.getElem?_eq_some_iff.mp h).1
  rw [List.getElem?_append_left hl]; exact h

theorem VR.mono {σ : List Addr} {a : AV} {v : Value} (h : VR σ a v) (τ : List Addr) : VR (σ ++ τ) a v := by
  cases a with
  | ref i => obtain ⟨x, h1, h2⟩ := h; exact ⟨x, get_app h1 τ, h2⟩
  | _ => exact h
theorem VRs.mono {σ : List Addr} {as : List AV} {vs : List Value} (h : VRs σ as vs) (τ : List Addr) : VRs (σ ++ τ) as vs := by
  induction h with
  | nil => exact .nil
  | cons h _ ih => exact .cons (h.mono τ) ih
theorem OR.mono {σ : List Addr} {ao : AO} {o : Obj} (h : OR σ ao o) (τ : List Addr) : OR (σ ++ τ) ao o := by
  cases ao with
  | list xs => obtain ⟨vs, n, e, h⟩ := h; exact ⟨vs, n, e, h.mono τ⟩
  | tuple xs => obtain ⟨vs, n, e, h⟩ := h; exact ⟨vs, n, e, h.mono τ⟩
  | inst c d => obtain ⟨a, h1, h2⟩ := h; exact ⟨a, get_app h1 τ, h2⟩
  | attrs k v => obtain ⟨a, b, c, d, e, h⟩ := h; exact ⟨a, b, c, d, e, h.mono τ⟩
  | edict => exact h

theorem VRs.length {σ : List Addr} {as : List AV} {vs : List Value} (h : VRs σ as vs) : vs.length = as.length := by
  induction h with
  | nil => rfl
  | cons _ _ ih => simp [ih]
theorem VRs.get {σ : List Addr} {as : List AV} {vs : List Value} (h : VRs σ as vs) : ∀ {i : Nat} {a : AV}, as[i]? = some a → ∃ v, vs[i]? = some v ∧ VR σ a v := by
  induction h with
  | nil => intro i a e; simp at e
  | cons h _ ih =>
    intro i a e
    cases i with
    | zero => simp at e; subst e; exact ⟨_, rfl, h⟩
    | succ i => simpa using ih (by simpa using e)
theorem VRs.get_none {σ : List Addr} {as : List AV} {vs : List Value} (h : VRs σ as vs) {i : Nat} (e : as[i]? = none) : vs[i]? = none := by
  rw [List.getElem?_eq_none_iff] at *
  rw [h.length]; exact e
theorem VRs.append {σ : List Addr} {as bs : List AV} {vs us : List Value} (h : VRs σ as vs) (h' : VRs σ bs us) : VRs σ (as ++ bs) (vs ++ us) := by
  induction h with
  | nil => exact h'
  | cons h _ ih => exact .cons h ih
theorem VRs.set {σ : List Addr} {as : List AV} {vs : List Value} (h : VRs σ as vs) : ∀ {i : Nat} {a : AV} {v : Value}, VR σ a v → VRs σ (as.set i a) (vs.set i v) := by
  induction h with
  | nil => intro i a v _; exact .nil
  | cons h t ih =>
    intro i a v hv
    cases i with
    | zero => exact .cons hv t
    | succ i => exact .cons h (ih hv)

abbrev Kp := Addr → Option Obj

def NsAt (κ : Kp) (a : Addr) (m : Str → Option Value) : Prop := ∃ o es ep, κ a = some o ∧ o.data = .dict es ep ∧ StrKeys es ∧ ∀ name, nsFind es name = m name

structure RH (κ : Kp) (σ : List Addr) (H : List AO) (h : Heap) : Prop where
  keep : ∀ b o, κ b = some o → h.get? b = some o
  off : ∀ a ∈ σ, κ a = none
  nd : σ.Nodup
  len : H.length = σ.length
  objs : ∀ (i : Nat) ao, H[i]? = some ao → ∃ a o, σ[i]? = some a ∧ h.get? a = some o ∧ OR σ ao o

theorem NsAt.ns {κ : Kp} {a : Addr} {m : Str → Option Value} {h : Heap} (n : NsAt κ a m) (keep : ∀ b o, κ b = some o → h.get? b = some o) : h.Ns a m :=
  let ⟨o, es, ep, e, r⟩ := n; ⟨o, es, ep, keep _ _ e, r⟩

section
variable {κ : Kp} {σ : List Addr} {H : List AO} {h h' : Heap}
theorem RH.lt (R : RH κ σ H h) {a : Addr} (ha : a ∈ σ) : a < h.objs.size := by
  obtain ⟨i, hi, e⟩ := List.mem_iff_getElem.mp ha
  have hi' : i < H.length := by rw [R.len]; exact hi
  obtain ⟨a', o, h1, h2, _⟩ := R.objs i H[i] (by simp [hi'])
  have : a' = a := by
    rw [List.getElem?_eq_getElem hi] at h1
    exact (Option.some.inj h1).symm.trans e
  exact this ▸ Heap.lt_size h2
theorem RH.kp_none (R : RH κ σ H h) : κ h.objs.size = none := by
  cases e : κ h.objs.size with
  | none => rfl
  | some o => exact absurd (Heap.lt_size (R.keep _ _ e)) (Nat.lt_irrefl _)
theorem RH.alloc (R : RH κ σ H h) {ao : AO} {o : Obj} (ho : OR (σ ++ [h.objs.size]) ao o) (hf : o.isFreed = false) : RH κ (σ ++ [h.objs.size]) (H ++ [ao]) (h.push o) where
  keep := fun b o' e => Heap.get?_push_of_some _ (R.keep b o' e)
  off := fun a ha => by
    rcases List.mem_append.mp ha with ha | ha
    · exact R.off a ha
    · rw [List.mem_singleton.mp ha]; exact R.kp_none
  nd := List.nodup_append.mpr ⟨R.nd, by simp, fun a ha b hb e => by
    have := R.lt ha
    rw [List.mem_singleton.mp hb] at e
    rw [e] at this
    exact absurd this (Nat.lt_irrefl _)⟩
  len := by simp [R.len]
  objs := fun i ao' e => by
    by_cases hi : i < H.length
    · rw [List.getElem?_append_left hi] at e
      obtain ⟨a, o', h1, h2, h3⟩ := R.objs i ao' e
      exact ⟨a, o', get_app h1 _, Heap.get?_push_of_some _ h2, h3.mono _⟩
    · have hi2 : i = H.length := by
        have := (List.getElem?_eq_some_iff.mp e).1
        simp at this; omega
      subst hi2
      simp at e
      subst e
      refine ⟨h.objs.size, o, ?_, Heap.get?_push_size _ hf, ho⟩
      rw [R.len]; simp
theorem RH.grow (R : RH κ σ H h) (g : ∀ b o, h.get? b = some o → h'.get? b = some o) : RH κ σ H h' where
  keep := fun b o e => g b o (R.keep b o e)
  off := R.off
  nd := R.nd
  len := R.len
  objs := fun i ao e => let ⟨a, o, h1, h2, h3⟩ := R.objs i ao e; ⟨a, o, h1, g _ _ h2, h3⟩
theorem RH.read (R : RH κ σ H h) {i : Nat} {ao : AO} {v : Value} (e : H[i]? = some ao) (hv : VR σ (.ref i) v) : ∃ a o, v = .ref a ∧ σ[i]? = some a ∧ h.get? a = some o ∧ OR σ ao o := by
  obtain ⟨a, o, h1, h2, h3⟩ := R.objs i ao e
  obtain ⟨a', h4, h5⟩ := hv
  rw [h1] at h4
  cases h4
  exact ⟨a, o, h5, h1, h2, h3⟩
theorem nodup_get {σ : List Addr} (nd : σ.Nodup) {i j : Nat} {a : Addr} (hi : σ[i]? = some a) (hj : σ[j]? = some a) : i = j := by
  have h1 := (List.getElem?_eq_some_iff.mp hi)
  have h2 := (List.getElem?_eq_some_iff.mp hj)
  obtain ⟨l1, e1⟩ := h1
  obtain ⟨l2, e2⟩ := h2
  have p := List.pairwise_iff_getElem.mp nd
  rcases Nat.lt_trichotomy i j with q | q | q
  · exact absurd (e1.trans e2.symm) (p i j l1 l2 q)
  · exact q
  · exact absurd (e2.trans e1.symm) (p j i l2 l1 q)
theorem RH.set (R : RH κ σ H h) {i : Nat} {a : Addr} {ao' : AO} {o' : Obj} (hi : σ[i]? = some a) (g : h'.get? a = some o') (b : Heap.SameBut a h h') (ho : OR σ ao' o') : RH κ σ (H.set i ao') h' where
  keep := fun c o e => by
    have hne : c ≠ a := fun q => by
      have := R.off a (List.mem_of_getElem? hi)
      rw [← q, e] at this; cases this
    exact (b.2 c hne).trans (R.keep c o e)
  off := R.off
  nd := R.nd
  len := by simp [R.len]
  objs := fun j ao e => by
    by_cases hj : j = i
    · subst hj
      have hl : j < H.length := by
        have := (List.getElem?_eq_some_iff.mp e).1
        simpa using this
      rw [List.getElem?_set_self hl] at e
      cases e
      exact ⟨a, o', hi, g, ho⟩
    · rw [List.getElem?_set_ne (Ne.symm hj)] at e
      obtain ⟨c, o, h1, h2, h3⟩ := R.objs j ao e
      have hne : c ≠ a := fun q => hj (nodup_get R.nd (q ▸ h1) hi)
      exact ⟨c, o, h1, (b.2 c hne).trans h2, h3⟩
/-- an object off the ledger turns -/
theorem RH.off1 (R : RH κ σ H h) {I : Addr} (hI : I ∉ σ) (kI : κ I = none) (b : Heap.ExtBut I h h') : RH κ σ H h' where
  keep := fun c o e => b c o (fun q => by rw [q, kI] at e; cases e) (R.keep c o e)
  off := R.off
  nd := R.nd
  len := R.len
  objs := fun i ao e => let ⟨a, o, h1, h2, h3⟩ := R.objs i ao e; ⟨a, o, h1, b _ _ (fun q => hI (q ▸ List.mem_of_getElem? h1)) h2, h3⟩
end

/-- what an invariant over the ledger must bear -/
structure IsInv (κ : Kp) (I : List Addr → AS → Heap → Prop) : Prop where
  rh : ∀ {σ st h}, I σ st h → RH κ σ st.heap h
  step : ∀ {σ st h τ H' h'}, I σ st h → RH κ (σ ++ τ) H' h' → (∀ b o, b ∉ σ → h.get? b = some o → h'.get? b = some o) → (∀ a ∈ τ, h.get? a = none) → I (σ ++ τ) { st with heap := H' } h'

abbrev NoE : Value → Shared → Prop := fun _ _ => False

/-- the tree t is told by the function f -/
structure S (M : Model) (A : Around) (I : List Addr → AS → Heap → Prop) {α β : Type} (R : List Addr → β → α → Prop) (t : Sem α) (f : AS → Option (β × AS)) : Prop where
  run : ∀ σ st s b st', I σ st s.heap → f st = some (b, st') → ∀ Q : α → Shared → Prop,
    (∀ τ h' tk' a, I (σ ++ τ) st' h' → R (σ ++ τ) b a → Q a { s with heap := h', toks := tk' }) → wpAny M A t Q NoE s

def Op1 (M : Model) (A : Around) (I : List Addr → AS → Heap → Prop) {α β : Type} (R : List Addr → β → α → Prop) (o : Value → Sem α) (f : AV → AS → Option (β × AS)) : Prop :=
  ∀ a a' σ st s b st', I σ st s.heap → VR σ a a' → f a st = some (b, st') → ∀ Q : α → Shared → Prop,
    (∀ τ h' tk' x, I (σ ++ τ) st' h' → R (σ ++ τ) b x → Q x { s with heap := h', toks := tk' }) → wpAny M A (o a') Q NoE s

def Op2 (M : Model) (A : Around) (I : List Addr → AS → Heap → Prop) {α β : Type} (R : List Addr → β → α → Prop) (o : Value → Value → Sem α) (f : AV → AV → AS → Option (β × AS)) : Prop :=
  ∀ a c a' c' σ st s b st', I σ st s.heap → VR σ a a' → VR σ c c' → f a c st = some (b, st') → ∀ Q : α → Shared → Prop,
    (∀ τ h' tk' x, I (σ ++ τ) st' h' → R (σ ++ τ) b x → Q x { s with heap := h', toks := tk' }) → wpAny M A (o a' c') Q NoE s

def OpN (M : Model) (A : Around) (I : List Addr → AS → Heap → Prop) {α β : Type} (R : List Addr → β → α → Prop) (o : List Value → Sem α) (f : List AV → AS → Option (β × AS)) : Prop :=
  ∀ as as' σ st s b st', I σ st s.heap → VRs σ as as' → f as st = some (b, st') → ∀ Q : α → Shared → Prop,
    (∀ τ h' tk' x, I (σ ++ τ) st' h' → R (σ ++ τ) b x → Q x { s with heap := h', toks := tk' }) → wpAny M A (o as') Q NoE s

def BR : List Addr → Bool → Bool → Prop := fun _ b b' => b' = b
def UR : List Addr → Unit → Unit → Prop := fun _ _ _ => True

inductive AF where
  | next | brk | cont
  | ret (v : AV)

def FR (σ : List Addr) : AF → Flow → Prop
  | .next, f => f = .next
  | .brk, f => f = .brk
  | .cont, f => f = .cont
  | .ret v, f => ∃ v', f = .ret v' ∧ VR σ v v'

/-- one after the other -/
noncomputable def seqA {β γ : Type} (f : AS → Option (β × AS)) (g : β → AS → Option (γ × AS)) : AS → Option (γ × AS) := fun st =>
  @Option.rec (β × AS) (fun _ => Option (γ × AS)) none (fun p => @Prod.rec β AS (fun _ => Option (γ × AS)) (fun b st' => g b st') p) (f st)

theorem seqA_some {β γ : Type} {f : AS → Option (β × AS)} {g : β → AS → Option (γ × AS)} {st : AS} {r : γ × AS} (h : seqA f g st = some r) : ∃ b st', f st = some (b, st') ∧ g b st' = some r := by
  unfold seqA at h
  cases e : f st with
  | none => rw [e] at h; cases h
  | some p => rw [e] at h; exact ⟨p.1, p.2, rfl, h⟩

section
variable {M : Model} {A : Around} {I : List Addr → AS → Heap → Prop} {env : Env}
theorem S.mono {α β : Type} {R : List Addr → β → α → Prop} {t : Sem α} {f : AS → Option (β × AS)} (h : S M A I R t f) {E : Value → Shared → Prop} {σ st s b st'} (hI : I σ st s.heap) (e : f st = some (b, st')) {Q : α → Shared → Prop}
    (hQ : ∀ τ h' tk' a, I (σ ++ τ) st' h' → R (σ ++ τ) b a → Q a { s with heap := h', toks := tk' }) : wpAny M A t Q E s :=
  wpAny_mono (h.run σ st s b st' hI e Q hQ) (fun _ _ x => x) (fun _ _ x => x.elim)

noncomputable def bBin (fl fr : AS → Option (AV × AS)) (op : AV → AV → AS → Option (AV × AS)) : AS → Option (AV × AS) := seqA fl fun a => seqA fr fun b => op a b

theorem S_BinOp {l r : PySem.Expr} {op : Operator} {pos : Pos} {fl fr : AS → Option (AV × AS)} {g : AV → AV → AS → Option (AV × AS)} (hl : S M A I VR (eval l env) fl) (hr : S M A I VR (eval r env) fr) (ho : Op2 M A I VR (binaryOp op) g) :
    S M A I VR (eval (.BinOp l op r pos) env) (bBin fl fr g) := by
  refine .mk fun σ st s b st' hI e Q hQ => ?_
  obtain ⟨a, st₁, e1, e⟩ := seqA_some e
  obtain ⟨c, st₂, e2, e⟩ := seqA_some e
  refine wpAny_BinOp (hl.run σ st s a st₁ hI e1 _ fun τ₁ h₁ t₁ a' I₁ r₁ => hr.run _ _ _ _ _ I₁ e2 _ fun τ₂ h₂ t₂ c' I₂ r₂ => ho _ _ _ _ _ _ _ _ _ I₂ (r₁.mono τ₂) r₂ e _ fun τ₃ h₃ t₃ x I₃ r₃ => ?_)
  rw [List.append_assoc, List.append_assoc] at I₃ r₃
  exact hQ _ _ _ _ I₃ r₃
end
end Mine
end
section
open PySem PySem.W PyProof.Rows PySem.Calls PySem.Spec
set_option maxRecDepth 100000
namespace Mine
def NameRel (σ : List Addr) (names : List Str) (ls : List (Option AV)) (m : Str → Option Value) : Prop :=
  ∀ (i : Nat) x v, names[i]? = some x → ls[i]? = some (some v) → ∃ v', m x = some v' ∧ VR σ v v'
theorem NameRel.mono {σ : List Addr} {names ls m} (h : NameRel σ names ls m) (τ : List Addr) : NameRel (σ ++ τ) names ls m := fun i x v e1 e2 => let ⟨v', h1, h2⟩ := h i x v e1 e2; ⟨v', h1, h2.mono τ⟩
theorem NameRel.set {σ : List Addr} {names : List Str} {ls m} (h : NameRel σ names ls m) (nd : names.Nodup) {i : Nat} {x : Str} {v : AV} {v' : Value} (hi : names[i]? = some x) (hv : VR σ v v') : NameRel σ names (ls.set i (some v)) (fun y => if y = x then some v' else m y) := by
  intro j y u e1 e2
  by_cases hj : j = i
  · subst hj
    have hy : y = x := by rw [hi] at e1; exact (Option.some.inj e1).symm
    subst hy
    have hl : j < ls.length := by
      have := (List.getElem?_eq_some_iff.mp e2).1
      simpa using this
    rw [List.getElem?_set_self hl] at e2
    cases e2
    exact ⟨v', by simp, hv⟩
  · rw [List.getElem?_set_ne (Ne.symm hj)] at e2
    obtain ⟨u', h1, h2⟩ := h j y u e1 e2
    have hne : y ≠ x := by
      intro q; subst q
      have p := List.pairwise_iff_getElem.mp nd
      obtain ⟨l1, q1⟩ := List.getElem?_eq_some_iff.mp e1
      obtain ⟨l2, q2⟩ := List.getElem?_eq_some_iff.mp hi
      rcases Nat.lt_trichotomy j i with q | q | q
      · exact p j i l1 l2 q (q1.trans q2.symm)
      · exact hj q
      · exact p i j l2 l1 q (q2.trans q1.symm)
    exact ⟨u', by simp [hne, h1], h2⟩

/-- the frame's invariant -/
structure RF (κ : Kp) (L : Addr) (names : List Str) (pins : List (Nat × Addr)) (σ : List Addr) (st : AS) (h : Heap) : Prop where
  rh : RH κ σ st.heap h
  ns : ∃ m, h.Ns L m ∧ NameRel σ names st.loc m
  kL : κ L = none
  oL : L ∉ σ
  nd : names.Nodup
  pin : ∀ p ∈ pins, σ[p.1]? = some p.2

theorem RF.inv {κ : Kp} {L : Addr} {names : List Str} {pins : List (Nat × Addr)} : IsInv κ (RF κ L names pins) where
  rh := fun h => h.rh
  step := fun {σ st h τ H' h'} R RH' keep fr => by
    obtain ⟨m, hn, hm⟩ := R.ns
    refine ⟨RH', ⟨m, hn.at' fun o e => keep L o R.oL e, hm.mono τ⟩, R.kL, fun hm' => ?_, R.nd, fun p hp => get_app (R.pin p hp) τ⟩
    rcases List.mem_append.mp hm' with h1 | h1
    · exact R.oL h1
    · obtain ⟨o, _, _, e, _⟩ := hn
      rw [fr L h1] at e
      cases e
theorem RF.store {κ : Kp} {L : Addr} {names : List Str} {pins : List (Nat × Addr)} {σ st h h'} (R : RF κ L names pins σ st h) {i : Nat} {x : Str} {v : AV} {v' : Value} (hi : names[i]? = some x) (hv : VR σ v v') {m} (hm : NameRel σ names st.loc m)
    (hn : h'.Ns L (fun y => if y = x then some v' else m y)) (hs : Heap.SameBut L h h') : RF κ L names pins σ { st with loc := st.loc.set i (some v) } h' where
  rh := R.rh.off1 R.oL R.kL hs.extBut
  ns := ⟨_, hn, hm.set R.nd hi hv⟩
  kL := R.kL
  oL := R.oL
  nd := R.nd
  pin := R.pin

structure E0 (env : Env) (L : Addr) : Prop where
  kind : env.scope.kind = .function
  loc : env.locals = L
  glo : env.globals = mainGlobals
  blt : env.builtins = builtinsNs

def okA {β : Type} (b : β) : AS → Option (β × AS) := fun st => some (b, st)

noncomputable def aLoc (i : Nat) : AS → Option (AV × AS) := fun st => onSome (nthR st.loc i) fun o => onSome o fun v => some (v, st)
theorem aLoc_some {i : Nat} {st st' : AS} {b : AV} (e : aLoc i st = some (b, st')) : st' = st ∧ st.loc[i]? = some (some b) := by
  obtain ⟨o, h1, e⟩ := onSome_some e
  obtain ⟨v, h2, e⟩ := onSome_some e
  cases e
  rw [nthR_eq] at h1
  exact ⟨rfl, by rw [h1, h2]⟩
noncomputable def aSt (i : Nat) (v : AV) : AS → Option (Unit × AS) := fun st => some ((), ⟨setR st.loc (some v) i, st.cmp, st.heap⟩)
theorem aSt_some {i : Nat} {v : AV} {st st' : AS} {b : Unit} (e : aSt i v st = some (b, st')) : st' = { st with loc := st.loc.set i (some v) } := by
  cases e
  rw [setR_eq]

section
variable {prog : Program} {w : World} {A : Around} {κ : Kp} {L : Addr} {names : List Str} {pins : List (Nat × Addr)} {env : Env}

theorem app_nil_heap {I : List Addr → AS → Heap → Prop} {σ st h} (hI : I σ st h) : I (σ ++ []) st h := by rw [List.append_nil]; exact hI

theorem S_loc {x : Str} {pos : Pos} {i : Nat} (e0 : E0 env L) (hl : env.kindOf x = some .local) (hi : names[i]? = some x) (hd : (x == ("__debug__" : Str)) = false := by decide) :
    S (model prog w) A (RF κ L names pins) VR (eval (.Name x pos) env) (aLoc i) := by
  refine .mk fun σ st s b st' hI e Q hQ => ?_
  obtain ⟨m, hn, hm⟩ := hI.ns
  obtain ⟨rfl, hv⟩ := aLoc_some e
  obtain ⟨v', h1, h2⟩ := hm i x _ hi hv
  refine wpAny_Name (wpAny_loadName_local e0.kind hl (by rw [e0.loc]; exact hn) h1 ?_) hd
  exact hQ [] s.heap s.toks v' (app_nil_heap hI) (h2.mono [])
theorem S_load {x : Str} {i : Nat} (e0 : E0 env L) (hl : env.kindOf x = some .local) (hi : names[i]? = some x) :
    S (model prog w) A (RF κ L names pins) VR (loadName env x) (aLoc i) := by
  refine .mk fun σ st s b st' hI e Q hQ => ?_
  obtain ⟨m, hn, hm⟩ := hI.ns
  obtain ⟨rfl, hv⟩ := aLoc_some e
  obtain ⟨v', h1, h2⟩ := hm i x _ hi hv
  refine wpAny_loadName_local e0.kind hl (by rw [e0.loc]; exact hn) h1 ?_
  exact hQ [] s.heap s.toks v' (app_nil_heap hI) (h2.mono [])
theorem O_store {x : Str} {i : Nat} (e0 : E0 env L) (hl : env.kindOf x = some .local) (hi : names[i]? = some x) :
    Op1 (model prog w) A (RF κ L names pins) UR (storeName env x) (aSt i) := by
  intro a a' σ st s b st' hI ha e Q hQ
  obtain ⟨m, hn, hm⟩ := hI.ns
  cases aSt_some e
  refine wpAny_storeName_local hl (by rw [e0.loc]; exact hn) (fun h' hn' hs' => ?_) (by rw [e0.kind]; rfl)
  rw [e0.loc] at hn' hs'
  exact hQ [] h' _ () (app_nil_heap (hI.store hi ha hm hn' hs')) trivial
end

section
variable {prog : Program} {w : World} {A : Around} {I : List Addr → AS → Heap → Prop} {env : Env}
theorem S_int {n : Int} {k : Nat} {pos : Pos} : S (model prog w) A I VR (eval (.Constant (.int n) k pos) env) (okA (.int n)) := by
  refine .mk fun σ st s b st' hI e Q hQ => ?_
  cases e
  exact wpAny_Constant_int (hQ [] s.heap _ _ (app_nil_heap hI) ⟨_, rfl⟩)
theorem S_bool {c : Bool} {k : Nat} {pos : Pos} : S (model prog w) A I VR (eval (.Constant (.bool c) k pos) env) (okA (.bool c)) := by
  refine .mk fun σ st s b st' hI e Q hQ => ?_
  cases e
  exact wpAny_Constant_bool (hQ [] s.heap _ _ (app_nil_heap hI) rfl)
theorem S_none {k : Nat} {pos : Pos} : S (model prog w) A I VR (eval (.Constant .none k pos) env) (okA .none) := by
  refine .mk fun σ st s b st' hI e Q hQ => ?_
  cases e
  exact wpAny_Constant_none (hQ [] s.heap _ _ (app_nil_heap hI) rfl)
theorem S_str {x : Str} {l : List Nat} {k : Nat} {pos : Pos} (hx : x = ⟨l.toArray⟩) : S (model prog w) A I VR (eval (.Constant (.str x) k pos) env) (okA (.str l)) := by
  refine .mk fun σ st s b st' hI e Q hQ => ?_
  cases e
  subst hx
  exact wpAny_Constant_str (hQ [] s.heap _ _ (app_nil_heap hI) ⟨_, rfl⟩)

noncomputable def o2 {β : Type} (f : AV → AV → Option β) : AV → AV → AS → Option (β × AS) := fun a c st => onSome (f a c) fun b => some (b, st)
noncomputable def o1 {β : Type} (f : AV → Option β) : AV → AS → Option (β × AS) := fun a st => onSome (f a) fun b => some (b, st)
/-- a pure op on two values -/
theorem Op2.pure {R : List Addr → β → Value → Prop} {o : Value → Value → Sem Value} {f : AV → AV → Option β}
    (h : ∀ a c a' c' σ s b (Q : Value → Shared → Prop), VR σ a a' → VR σ c c' → f a c = some b → (∀ tk' x, R σ b x → Q x { s with toks := tk' }) → wpAny (model prog w) A (o a' c') Q NoE s) :
    Op2 (model prog w) A I R o (o2 f) := by
  intro a c a' c' σ st s b st' hI ha hc e Q hQ
  obtain ⟨b', hf, e⟩ := onSome_some e
  cases e
  refine h a c a' c' σ s _ Q ha hc hf fun tk' x hx => ?_
  exact hQ [] s.heap tk' x (app_nil_heap hI) (by rw [List.append_nil]; exact hx)

theorem Op1.pure {β α : Type} {R : List Addr → β → α → Prop} {o : Value → Sem α} {f : AV → Option β}
    (h : ∀ a a' σ s b (Q : α → Shared → Prop), VR σ a a' → f a = some b → (∀ tk' x, R σ b x → Q x { s with toks := tk' }) → wpAny (model prog w) A (o a') Q NoE s) :
    Op1 (model prog w) A I R o (o1 f) := by
  intro a a' σ st s b st' hI ha e Q hQ
  obtain ⟨b', hf, e⟩ := onSome_some e
  cases e
  refine h a a' σ s _ Q ha hf fun tk' x hx => ?_
  exact hQ [] s.heap tk' x (app_nil_heap hI) (by rw [List.append_nil]; exact hx)

noncomputable def iAdd (a b : AV) : Option AV := onInt a fun x => onInt b fun y => some (.int (addI x y))
noncomputable def iSub (a b : AV) : Option AV := onInt a fun x => onInt b fun y => some (.int (subI x y))
noncomputable def iMod (a b : AV) : Option AV := onInt a fun x => onInt b fun y => onNat y fun n => onBool (Nat.ble 1 n) (some (.int (modI x y)))
noncomputable def iDiv (a b : AV) : Option AV := onInt a fun x => onInt b fun y => onNat x fun m => onNat y fun n => onBool (Nat.ble 1 n) (onBool (Nat.ble n 1000000) (onBool (Nat.ble m 1000000) (some (.int (.ofNat (Nat.div m n))))))
noncomputable def iPow (a b : AV) : Option AV := onInt a fun x => onInt b fun y => onNat x fun m => onNat y fun n => onBool (Nat.ble n 1000) (onBool (Nat.ble m 1000) (some (.int (.ofNat (Nat.pow m n)))))
noncomputable def iShl (a b : AV) : Option AV := onInt a fun x => onInt b fun y => onNat x fun m => onNat y fun n => onBool (Nat.ble n 1000) (onBool (Nat.ble m 1000) (some (.int (.ofNat (Nat.mul m (Nat.pow 2 n))))))
noncomputable def iAnd (a b : AV) : Option AV := onInt a fun x => onInt b fun y => onNat x fun m => onNat y fun n => some (.int (.ofNat (Nat.land m n)))
noncomputable def iXor (a b : AV) : Option AV := onInt a fun x => onInt b fun y => some (.int (Builtin.bitXor x y))

theorem two_ints {a b : AV} {β : Type} {k : Int → Int → Option β} {r : β} (e : (onInt a fun x => onInt b fun y => k x y) = some r) : ∃ x y, a = .int x ∧ b = .int y ∧ k x y = some r := by
  obtain ⟨x, h1, e⟩ := onInt_some e
  obtain ⟨y, h2, e⟩ := onInt_some e
  exact ⟨x, y, h1, h2, e⟩
theorem two_nats {a b : AV} {β : Type} {k : Nat → Nat → Option β} {r : β} (e : (onInt a fun x => onInt b fun y => onNat x fun m => onNat y fun n => k m n) = some r) : ∃ m n : Nat, a = .int (m : Int) ∧ b = .int (n : Int) ∧ k m n = some r := by
  obtain ⟨x, y, rfl, rfl, e⟩ := two_ints e
  obtain ⟨m, rfl, e⟩ := onNat_some e
  obtain ⟨n, rfl, e⟩ := onNat_some e
  exact ⟨m, n, rfl, rfl, e⟩
theorem O_add : Op2 (model prog w) A I VR (binaryOp .Add) (o2 iAdd) := Op2.pure fun a c a' c' σ s b Q ha hc e hQ => by
  obtain ⟨x, y, rfl, rfl, e⟩ := two_ints e
  cases e; obtain ⟨t, rfl⟩ := ha; obtain ⟨u, rfl⟩ := hc
  exact add_int (hQ _ _ ⟨_, by rw [addI_eq]⟩)
theorem O_sub : Op2 (model prog w) A I VR (binaryOp .Sub) (o2 iSub) := Op2.pure fun a c a' c' σ s b Q ha hc e hQ => by
  obtain ⟨x, y, rfl, rfl, e⟩ := two_ints e
  cases e; obtain ⟨t, rfl⟩ := ha; obtain ⟨u, rfl⟩ := hc
  exact sub_int (hQ _ _ ⟨_, by rw [subI_eq]⟩)
theorem O_mod : Op2 (model prog w) A I VR (binaryOp .Mod) (o2 iMod) := Op2.pure fun a c a' c' σ s b Q ha hc e hQ => by
  obtain ⟨x, y, rfl, rfl, e⟩ := two_ints e
  obtain ⟨n, rfl, e⟩ := onNat_some e
  obtain ⟨h1, e⟩ := onBool_some e
  cases e; obtain ⟨t, rfl⟩ := ha; obtain ⟨u, rfl⟩ := hc
  rw [Nat.ble_eq] at h1
  exact mod_int' (by omega) (hQ _ _ ⟨_, by rw [modI_eq]⟩)
theorem O_div : Op2 (model prog w) A I VR (binaryOp .FloorDiv) (o2 iDiv) := Op2.pure fun a c a' c' σ s b Q ha hc e hQ => by
  obtain ⟨m, n, rfl, rfl, e⟩ := two_nats e
  obtain ⟨h1, e⟩ := onBool_some e
  obtain ⟨h2, e⟩ := onBool_some e
  obtain ⟨h3, e⟩ := onBool_some e
  cases e; obtain ⟨t, rfl⟩ := ha; obtain ⟨u, rfl⟩ := hc
  rw [Nat.ble_eq] at h1 h2 h3
  exact floordiv_int (by omega) (hQ _ _ ⟨_, by rw [← divI_eq]; rfl⟩) (.inl (PyProof.noPylong_small (by omega)))
theorem O_pow : Op2 (model prog w) A I VR (binaryOp .Pow) (o2 iPow) := Op2.pure fun a c a' c' σ s b Q ha hc e hQ => by
  obtain ⟨m, n, rfl, rfl, e⟩ := two_nats e
  obtain ⟨h1, e⟩ := onBool_some e
  obtain ⟨h2, e⟩ := onBool_some e
  cases e; obtain ⟨t, rfl⟩ := ha; obtain ⟨u, rfl⟩ := hc
  rw [Nat.ble_eq] at h1 h2
  have eq : (m : Int) ^ ((n : Int).toNat) = Int.ofNat (Nat.pow m n) := by rw [Int.toNat_natCast]; exact (Int.natCast_pow m n).symm
  exact pow_int_small (by omega) (by omega) (by omega) (hQ _ _ ⟨s.toks, congrArg (fun z => Value.int z s.toks) eq⟩)
theorem O_shl : Op2 (model prog w) A I VR (binaryOp .LShift) (o2 iShl) := Op2.pure fun a c a' c' σ s b Q ha hc e hQ => by
  obtain ⟨m, n, rfl, rfl, e⟩ := two_nats e
  obtain ⟨h1, e⟩ := onBool_some e
  obtain ⟨h2, e⟩ := onBool_some e
  cases e; obtain ⟨t, rfl⟩ := ha; obtain ⟨u, rfl⟩ := hc
  rw [Nat.ble_eq] at h1 h2
  have eq : (m : Int) * 2 ^ ((n : Int).toNat) = Int.ofNat (Nat.mul m (Nat.pow 2 n)) := by
    rw [Int.toNat_natCast]
    show _ = ((m * 2 ^ n : Nat) : Int)
    rw [Int.natCast_mul, Int.natCast_pow]; rfl
  exact lshift_int_small (by omega) (by omega) (by omega) (hQ _ _ ⟨s.toks, congrArg (fun z => Value.int z s.toks) eq⟩)
theorem O_and : Op2 (model prog w) A I VR (binaryOp .BitAnd) (o2 iAnd) := Op2.pure fun a c a' c' σ s b Q ha hc e hQ => by
  obtain ⟨m, n, rfl, rfl, e⟩ := two_nats e
  cases e; obtain ⟨t, rfl⟩ := ha; obtain ⟨u, rfl⟩ := hc
  have eq : Builtin.bitAnd (m : Int) (n : Int) = Int.ofNat (Nat.land m n) := by rw [bitAnd_pp (Int.natCast_nonneg m) (Int.natCast_nonneg n)]; rfl
  exact and_int (hQ _ _ ⟨s.toks, congrArg (fun z => Value.int z s.toks) eq⟩)
theorem O_iadd : Op2 (model prog w) A I VR (inplaceOp .Add) (o2 iAdd) := Op2.pure fun a c a' c' σ s b Q ha hc e hQ => by
  obtain ⟨x, y, rfl, rfl, e⟩ := two_ints e
  cases e; obtain ⟨t, rfl⟩ := ha; obtain ⟨u, rfl⟩ := hc
  exact iadd_int (hQ _ _ ⟨_, by rw [addI_eq]⟩)
theorem O_ixor : Op2 (model prog w) A I VR (inplaceOp .BitXor) (o2 iXor) := Op2.pure fun a c a' c' σ s b Q ha hc e hQ => by
  obtain ⟨x, y, rfl, rfl, e⟩ := two_ints e
  cases e; obtain ⟨t, rfl⟩ := ha; obtain ⟨u, rfl⟩ := hc
  exact ixor_int (hQ _ _ ⟨_, rfl⟩)

/-- comparisons: the answer is a bool -/
def VB : List Addr → Bool → Value → Prop := fun _ b v => v = .bool b
noncomputable def iLt (a b : AV) : Option Bool := onInt a fun x => onInt b fun y => some (leI (addI x 1) y)
noncomputable def iGe (a b : AV) : Option Bool := onInt a fun x => onInt b fun y => some (leI y x)
/-- == of two ints or two texts -/
noncomputable def sEq (a b : AV) : Option Bool := @AV.rec (fun _ => Option Bool) none (fun _ => none) (fun x => onInt b fun y => some (eqI x y)) (fun x => onStr b fun y => some (eqL x y)) (fun _ => none) a
theorem str_beq (x y : List Nat) : ((⟨x.toArray⟩ : Str) == ⟨y.toArray⟩) = (x == y) := by
  by_cases h : x = y
  · subst h; simp
  · have : (⟨x.toArray⟩ : Str) ≠ ⟨y.toArray⟩ := fun e => h (by
      have := congrArg (fun s : Str => s.cps.toList) e
      simpa using this)
    rw [beq_eq_false_iff_ne.mpr this, beq_eq_false_iff_ne.mpr h]
theorem O_lt : Op2 (model prog w) A I VB (compareOp .Lt) (o2 iLt) := Op2.pure fun a c a' c' σ s b Q ha hc e hQ => by
  obtain ⟨x, y, rfl, rfl, e⟩ := two_ints e
  cases e; obtain ⟨t, rfl⟩ := ha; obtain ⟨u, rfl⟩ := hc
  refine lt_int (hQ s.toks _ ?_)
  show _ = Value.bool _
  rw [leI_eq, addI_eq]
  congr 1
theorem O_ge : Op2 (model prog w) A I VB (compareOp .GtE) (o2 iGe) := Op2.pure fun a c a' c' σ s b Q ha hc e hQ => by
  obtain ⟨x, y, rfl, rfl, e⟩ := two_ints e
  cases e; obtain ⟨t, rfl⟩ := ha; obtain ⟨u, rfl⟩ := hc
  exact ge_int (hQ s.toks _ (by show _ = Value.bool _; rw [leI_eq]))
theorem O_eq : Op2 (model prog w) A I VB (compareOp .Eq) (o2 sEq) := Op2.pure fun a c a' c' σ s b Q ha hc e hQ => by
  cases a with
  | int x =>
    obtain ⟨y, rfl, e⟩ := onInt_some (a := c) e
    cases e; obtain ⟨t, rfl⟩ := ha; obtain ⟨u, rfl⟩ := hc
    exact eq_int (hQ s.toks _ (by show _ = Value.bool _; rw [eqI_eq]))
  | str x =>
    obtain ⟨y, rfl, e⟩ := onStr_some (a := c) e
    cases e; obtain ⟨t, rfl⟩ := ha; obtain ⟨u, rfl⟩ := hc
    exact eq_str (hQ s.toks _ (by show _ = Value.bool _; rw [str_beq, eqL_eq]))
  | none => cases e
  | bool b => cases e
  | ref i => cases e
noncomputable def nul (a : AV) : Bool := @AV.rec (fun _ => Bool) true (fun _ => false) (fun _ => false) (fun _ => false) (fun _ => false) a
noncomputable def onNone {β : Type} (a : AV) (x : Option β) : Option β := @AV.rec (fun _ => Option β) x (fun _ => none) (fun _ => none) (fun _ => none) (fun _ => none) a
theorem onNone_some {β : Type} {a : AV} {x : Option β} {r : β} (h : onNone a x = some r) : a = .none ∧ x = some r := by
  cases a <;> first | exact ⟨rfl, h⟩ | cases h
noncomputable def isN (a b : AV) : Option Bool := onNone b (some (nul a))
noncomputable def isNN (a b : AV) : Option Bool := onNone b (some (@Bool.rec (fun _ => Bool) true false (nul a)))
theorem vr_none {σ : List Addr} {a : AV} {a' : Value} (h : VR σ a a') : (a' == Value.none) = nul a := by
  cases a with
  | none => cases h; rfl
  | bool b => cases h; rfl
  | int i => obtain ⟨t, rfl⟩ := h; rfl
  | str x => obtain ⟨t, rfl⟩ := h; rfl
  | ref i => obtain ⟨t, _, rfl⟩ := h; rfl
theorem O_is : Op2 (model prog w) A I VB (compareOp .Is) (o2 isN) := Op2.pure fun a c a' c' σ s b Q ha hc e hQ => by
  obtain ⟨rfl, e⟩ := onNone_some e
  cases e; cases hc
  exact is_none (hQ s.toks _ (by rw [vr_none ha]; rfl))
theorem O_isnot : Op2 (model prog w) A I VB (compareOp .IsNot) (o2 isNN) := Op2.pure fun a c a' c' σ s b Q ha hc e hQ => by
  obtain ⟨rfl, e⟩ := onNone_some e
  cases e; cases hc
  refine isNot_none (hQ s.toks _ ?_)
  rw [vr_none ha]
  cases nul a <;> rfl

/-- structure -/
noncomputable def aCmp (fl fr : AS → Option (AV × AS)) (g : AV → AV → AS → Option (Bool × AS)) : AS → Option (Bool × AS) := seqA fl fun a => seqA fr fun b => g a b
theorem S_isTrue_cmp {l r : PySem.Expr} {op : CmpOp} {pos : Pos} {whole : Sem Value} {fl fr : AS → Option (AV × AS)} {g : AV → AV → AS → Option (Bool × AS)} (hl : S (model prog w) A I VR (eval l env) fl) (hr : S (model prog w) A I VR (eval r env) fr)
    (ho : Op2 (model prog w) A I VB (compareOp op) g) (hm : behindInMarks op r = false := by with_unfolding_all rfl) : S (model prog w) A I BR (isTrue (.Compare l [op] [r] pos) env whole) (aCmp fl fr g) := by
  refine .mk fun σ st s b st' hI e Q hQ => ?_
  obtain ⟨a, st₁, e1, e⟩ := seqA_some e
  obtain ⟨c, st₂, e2, e⟩ := seqA_some e
  refine wpAny_isTrue_Compare1 (hl.run σ st s a st₁ hI e1 _ fun τ₁ h₁ t₁ a' I₁ r₁ => hr.run _ _ _ _ _ I₁ e2 _ fun τ₂ h₂ t₂ c' I₂ r₂ => ho _ _ _ _ _ _ _ _ _ I₂ (r₁.mono τ₂) r₂ e _ fun τ₃ h₃ t₃ x I₃ r₃ => ?_) hm
  rw [List.append_assoc, List.append_assoc] at I₃
  cases r₃
  exact wpAny_truthy_bool (hQ _ _ _ _ I₃ rfl)
theorem S_isTrue_not {x : PySem.Expr} {pos : Pos} {whole : Sem Value} {f : AS → Option (Bool × AS)} (h : S (model prog w) A I BR (isTrue x env (eval x env)) f) :
    S (model prog w) A I BR (isTrue (.UnaryOp .Not x pos) env whole) (seqA f fun b => okA (!b)) := by
  refine .mk fun σ st s b st' hI e Q hQ => ?_
  obtain ⟨a, st₁, e1, e⟩ := seqA_some e
  cases e
  refine wpAny_isTrue_Not (h.run σ st s a _ hI e1 _ fun τ₁ h₁ t₁ a' I₁ r₁ => hQ _ _ _ _ I₁ (by cases r₁; rfl))
noncomputable def aTruth (a : AV) : Option Bool := onInt a fun i => some (@Bool.rec (fun _ => Bool) true false (eqI i 0))
theorem S_isTrue_val {e : PySem.Expr} {f : AS → Option (AV × AS)} (h : S (model prog w) A I VR (eval e env) f) {g : AV → AS → Option (Bool × AS)} (ht : Op1 (model prog w) A I BR truthy g)
    (he : isTrue e env (eval e env) = (do let v ← eval e env; standAt e.pos; holding [v] (truthy v)) := by rfl) : S (model prog w) A I BR (isTrue e env (eval e env)) (seqA f g) := by
  refine .mk fun σ st s b st' hI e Q hQ => ?_
  obtain ⟨a, st₁, e1, e⟩ := seqA_some e
  refine wpAny_isTrue_value (h.run σ st s a _ hI e1 _ fun τ₁ h₁ t₁ a' I₁ r₁ => ht _ _ _ _ _ _ _ I₁ r₁ e _ fun τ₂ h₂ t₂ x I₂ r₂ => ?_) he
  rw [List.append_assoc] at I₂
  exact hQ _ _ _ _ I₂ r₂
noncomputable def aIf {β : Type} (t : AS → Option (Bool × AS)) (f g : AS → Option (β × AS)) : AS → Option (β × AS) := seqA t fun b st => @Bool.rec (fun _ => Option (β × AS)) (g st) (f st) b
noncomputable def aAnd (f g : AS → Option (Bool × AS)) : AS → Option (Bool × AS) := aIf f g (okA false)
noncomputable def aOr (f g : AS → Option (Bool × AS)) : AS → Option (Bool × AS) := aIf f (okA true) g
theorem aIf_some {β : Type} {t : AS → Option (Bool × AS)} {f g : AS → Option (β × AS)} {st : AS} {r : β × AS} (h : aIf t f g st = some r) : (∃ st', t st = some (true, st') ∧ f st' = some r) ∨ (∃ st', t st = some (false, st') ∧ g st' = some r) := by
  obtain ⟨b, st', e1, e⟩ := seqA_some h
  cases b with
  | true => exact .inl ⟨st', e1, e⟩
  | false => exact .inr ⟨st', e1, e⟩
theorem S_isTrue_and {x y : PySem.Expr} {pos : Pos} {whole : Sem Value} {f g : AS → Option (Bool × AS)} (hx : S (model prog w) A I BR (isTrue x env (eval x env)) f) (hy : S (model prog w) A I BR (isTrue y env (eval y env)) g) :
    S (model prog w) A I BR (isTrue (.BoolOp .And [x, y] pos) env whole) (aAnd f g) := by
  refine .mk fun σ st s b st' hI e Q hQ => ?_
  rcases aIf_some e with ⟨st₁, e1, e⟩ | ⟨st₁, e1, e⟩
  · refine wpAny_isTrue_BoolOp (wpAny_allTrue_And_cons (hx.run σ st s _ _ hI e1 _ fun τ₁ h₁ t₁ a' I₁ r₁ => ?_))
    cases r₁
    rw [if_pos rfl]
    refine wpAny_allTrue_And_cons (hy.run _ _ _ _ _ I₁ e _ fun τ₂ h₂ t₂ c' I₂ r₂ => ?_)
    rw [List.append_assoc] at I₂
    cases r₂
    cases b with
    | true => rw [if_pos rfl]; exact wpAny_allTrue_And_nil (hQ _ _ _ _ I₂ rfl)
    | false => rw [if_neg Bool.false_ne_true]; exact hQ _ _ _ _ I₂ rfl
  · cases e
    refine wpAny_isTrue_BoolOp (wpAny_allTrue_And_cons (hx.run σ st s _ _ hI e1 _ fun τ₁ h₁ t₁ a' I₁ r₁ => ?_))
    cases r₁
    rw [if_neg Bool.false_ne_true]
    exact hQ _ _ _ _ I₁ rfl
theorem S_isTrue_or {x y : PySem.Expr} {pos : Pos} {whole : Sem Value} {f g : AS → Option (Bool × AS)} (hx : S (model prog w) A I BR (isTrue x env (eval x env)) f) (hy : S (model prog w) A I BR (isTrue y env (eval y env)) g) :
    S (model prog w) A I BR (isTrue (.BoolOp .Or [x, y] pos) env whole) (aOr f g) := by
  refine .mk fun σ st s b st' hI e Q hQ => ?_
  rcases aIf_some e with ⟨st₁, e1, e⟩ | ⟨st₁, e1, e⟩
  · cases e
    refine wpAny_isTrue_BoolOp (wpAny_allTrue_Or_cons (hx.run σ st s _ _ hI e1 _ fun τ₁ h₁ t₁ a' I₁ r₁ => ?_))
    cases r₁
    rw [if_pos rfl]
    exact hQ _ _ _ _ I₁ rfl
  · refine wpAny_isTrue_BoolOp (wpAny_allTrue_Or_cons (hx.run σ st s _ _ hI e1 _ fun τ₁ h₁ t₁ a' I₁ r₁ => ?_))
    cases r₁
    rw [if_neg Bool.false_ne_true]
    refine wpAny_allTrue_Or_cons (hy.run _ _ _ _ _ I₁ e _ fun τ₂ h₂ t₂ c' I₂ r₂ => ?_)
    rw [List.append_assoc] at I₂
    cases r₂
    cases b with
    | true => rw [if_pos rfl]; exact hQ _ _ _ _ I₂ rfl
    | false => rw [if_neg Bool.false_ne_true]; exact wpAny_allTrue_Or_nil (hQ _ _ _ _ I₂ rfl)
theorem S_If {test : PySem.Expr} {body orelse : List Stmt} {pos : Pos} {t : AS → Option (Bool × AS)} {f g : AS → Option (AF × AS)} (ht : S (model prog w) A I BR (isTrue test env (eval test env)) t)
    (hf : S (model prog w) A I FR (execs body env) f) (hg : S (model prog w) A I FR (execs orelse env) g) : S (model prog w) A I FR (exec (.If test body orelse pos) env) (aIf t f g) := by
  refine .mk fun σ st s b st' hI e Q hQ => ?_
  rcases aIf_some e with ⟨st₁, e1, e⟩ | ⟨st₁, e1, e⟩
  · skip
    refine wpAny_If (ht.run σ st s _ _ hI e1 _ fun τ₁ h₁ t₁ a' I₁ r₁ => ?_)
    cases r₁
    rw [if_pos rfl]
    refine hf.run _ _ _ _ _ I₁ e _ fun τ₂ h₂ t₂ c' I₂ r₂ => ?_
    rw [List.append_assoc] at I₂ r₂
    exact hQ _ _ _ _ I₂ r₂
  · refine wpAny_If (ht.run σ st s _ _ hI e1 _ fun τ₁ h₁ t₁ a' I₁ r₁ => ?_)
    cases r₁
    rw [if_neg Bool.false_ne_true]
    refine hg.run _ _ _ _ _ I₁ e _ fun τ₂ h₂ t₂ c' I₂ r₂ => ?_
    rw [List.append_assoc] at I₂ r₂
    exact hQ _ _ _ _ I₂ r₂
theorem S_IfExp {test body orelse : PySem.Expr} {pos : Pos} {t : AS → Option (Bool × AS)} {f g : AS → Option (AV × AS)} (ht : S (model prog w) A I BR (isTrue test env (eval test env)) t)
    (hf : S (model prog w) A I VR (eval body env) f) (hg : S (model prog w) A I VR (eval orelse env) g) : S (model prog w) A I VR (eval (.IfExp test body orelse pos) env) (aIf t f g) := by
  refine .mk fun σ st s b st' hI e Q hQ => ?_
  rcases aIf_some e with ⟨st₁, e1, e⟩ | ⟨st₁, e1, e⟩
  · skip
    refine wpAny_IfExp (ht.run σ st s _ _ hI e1 _ fun τ₁ h₁ t₁ a' I₁ r₁ => ?_)
    cases r₁
    rw [if_pos rfl]
    refine hf.run _ _ _ _ _ I₁ e _ fun τ₂ h₂ t₂ c' I₂ r₂ => ?_
    rw [List.append_assoc] at I₂ r₂
    exact hQ _ _ _ _ I₂ r₂
  · refine wpAny_IfExp (ht.run σ st s _ _ hI e1 _ fun τ₁ h₁ t₁ a' I₁ r₁ => ?_)
    cases r₁
    rw [if_neg Bool.false_ne_true]
    refine hg.run _ _ _ _ _ I₁ e _ fun τ₂ h₂ t₂ c' I₂ r₂ => ?_
    rw [List.append_assoc] at I₂ r₂
    exact hQ _ _ _ _ I₂ r₂
noncomputable def aSeq (f g : AS → Option (AF × AS)) : AS → Option (AF × AS) := seqA f fun fl st' => @AF.rec (fun _ => Option (AF × AS)) (g st') (some (.brk, st')) (some (.cont, st')) (fun v => some (.ret v, st')) fl
theorem S_nil : S (model prog w) A I FR (execs [] env) (okA .next) := by
  refine .mk fun σ st s b st' hI e Q hQ => ?_
  cases e
  exact wpAny_execs_nil (hQ [] s.heap s.toks _ (app_nil_heap hI) rfl)
theorem S_cons {st₀ : Stmt} {rest : List Stmt} {f g : AS → Option (AF × AS)} (hf : S (model prog w) A I FR (exec st₀ env) f) (hg : S (model prog w) A I FR (execs rest env) g) : S (model prog w) A I FR (execs (st₀ :: rest) env) (aSeq f g) := by
  refine .mk fun σ st s b st' hI e Q hQ => ?_
  obtain ⟨fl, st₁, e1, e⟩ := seqA_some e
  refine wpAny_execs_cons (hf.run σ st s _ _ hI e1 _ fun τ₁ h₁ t₁ a' I₁ r₁ => ?_)
  cases fl with
  | next =>
    cases r₁
    refine hg.run _ _ _ _ _ I₁ e _ fun τ₂ h₂ t₂ c' I₂ r₂ => ?_
    rw [List.append_assoc] at I₂ r₂
    exact hQ _ _ _ _ I₂ r₂
  | brk => cases e; cases r₁; exact hQ _ _ _ _ I₁ rfl
  | cont => cases e; cases r₁; exact hQ _ _ _ _ I₁ rfl
  | ret v => cases e; obtain ⟨v', rfl, hv⟩ := r₁; exact hQ _ _ _ _ I₁ ⟨v', rfl, hv⟩
theorem S_one {st₀ : Stmt} {f : AS → Option (AF × AS)} (hf : S (model prog w) A I FR (exec st₀ env) f) : S (model prog w) A I FR (execs [st₀] env) f := by
  refine .mk fun σ st s b st' hI e Q hQ => ?_
  refine wpAny_execs_cons (hf.run σ st s _ _ hI e _ fun τ₁ h₁ t₁ a' I₁ r₁ => ?_)
  cases b with
  | next => cases r₁; exact wpAny_execs_nil (hQ _ _ _ _ I₁ rfl)
  | brk => cases r₁; exact hQ _ _ _ _ I₁ rfl
  | cont => cases r₁; exact hQ _ _ _ _ I₁ rfl
  | ret v => obtain ⟨v', rfl, hv⟩ := r₁; exact hQ _ _ _ _ I₁ ⟨v', rfl, hv⟩
theorem S_Break {pos : Pos} : S (model prog w) A I FR (exec (.Break pos) env) (okA .brk) := by
  refine .mk fun σ st s b st' hI e Q hQ => ?_
  cases e
  exact wpAny_Break (hQ [] s.heap s.toks _ (app_nil_heap hI) rfl)
theorem S_Return {x : PySem.Expr} {pos : Pos} {f : AS → Option (AV × AS)} (h : S (model prog w) A I VR (eval x env) f) : S (model prog w) A I FR (exec (.Return (some x) pos) env) (seqA f fun v => okA (.ret v)) := by
  refine .mk fun σ st s b st' hI e Q hQ => ?_
  obtain ⟨a, st₁, e1, e⟩ := seqA_some e
  cases e
  exact wpAny_Return_some (h.run σ st s a _ hI e1 _ fun τ₁ h₁ t₁ a' I₁ r₁ => hQ _ _ _ _ I₁ ⟨_, rfl, r₁⟩)
noncomputable def aExpr (f : AS → Option (AV × AS)) : AS → Option (AF × AS) := seqA f fun v st => @AV.rec (fun _ => Option (AF × AS)) (some (.next, st)) (fun _ => some (.next, st)) (fun _ => some (.next, st)) (fun _ => some (.next, st)) (fun _ => none) v
theorem S_Expr {x : PySem.Expr} {pos : Pos} {f : AS → Option (AV × AS)} (h : S (model prog w) A I VR (eval x env) f)
    (hi : interactive env = false := by rfl) (hs : swapsWith x none pos.line env = pure false := by rfl) : S (model prog w) A I FR (exec (.Expr x pos) env) (aExpr f) := by
  refine .mk fun σ st s b st' hI e Q hQ => ?_
  obtain ⟨a, st₁, e1, e⟩ := seqA_some e
  refine wpAny_Expr (h.run σ st s a _ hI e1 _ fun τ₁ h₁ t₁ a' I₁ r₁ => ?_) hi hs
  cases a with
  | none => cases e; cases r₁; exact hQ _ _ _ _ I₁ rfl
  | bool b => cases e; cases r₁; exact hQ _ _ _ _ I₁ rfl
  | int i => cases e; obtain ⟨t, rfl⟩ := r₁; exact hQ _ _ _ _ I₁ rfl
  | str x => cases e; obtain ⟨t, rfl⟩ := r₁; exact hQ _ _ _ _ I₁ rfl
  | ref i => cases e
noncomputable def aAssign (f : AS → Option (AV × AS)) (g : AV → AS → Option (Unit × AS)) : AS → Option (AF × AS) := seqA f fun v => seqA (g v) fun _ => okA .next
theorem S_Assign {x : Str} {pos' pos : Pos} {value : PySem.Expr} {f : AS → Option (AV × AS)} {g : AV → AS → Option (Unit × AS)} (h : S (model prog w) A I VR (eval value env) f) (hg : Op1 (model prog w) A I UR (storeName env x) g)
    (hs : swapsWith value (some (.Name x pos')) pos.line env = pure false := by rfl) : S (model prog w) A I FR (exec (.Assign [.Name x pos'] value pos) env) (aAssign f g) := by
  refine .mk fun σ st s b st' hI e Q hQ => ?_
  obtain ⟨a, st₁, e1, e⟩ := seqA_some e
  obtain ⟨u, st₂, e2, e⟩ := seqA_some e
  cases e
  refine wpAny_Assign_Name (h.run σ st s a _ hI e1 _ fun τ₁ h₁ t₁ a' I₁ r₁ => hg _ _ _ _ _ _ _ I₁ r₁ e2 _ fun τ₂ h₂ t₂ x' I₂ _ => ?_) hs
  rw [List.append_assoc] at I₂
  exact hQ _ _ _ _ I₂ rfl
noncomputable def aAug (f0 f : AS → Option (AV × AS)) (o : AV → AV → AS → Option (AV × AS)) (g : AV → AS → Option (Unit × AS)) : AS → Option (AF × AS) := seqA f0 fun a => seqA f fun b => seqA (o a b) fun v => seqA (g v) fun _ => okA .next
theorem S_AugName {x : Str} {pos' pos : Pos} {op : Operator} {value : PySem.Expr} {f0 f : AS → Option (AV × AS)} {o : AV → AV → AS → Option (AV × AS)} {g : AV → AS → Option (Unit × AS)} (h0 : S (model prog w) A I VR (loadName env x) f0)
    (h : S (model prog w) A I VR (eval value env) f) (ho : Op2 (model prog w) A I VR (inplaceOp op) o) (hg : Op1 (model prog w) A I UR (storeName env x) g) :
    S (model prog w) A I FR (exec (.AugAssign (.Name x pos') op value pos) env) (aAug f0 f o g) := by
  refine .mk fun σ st s b st' hI e Q hQ => ?_
  obtain ⟨a, st₁, e1, e⟩ := seqA_some e
  obtain ⟨c, st₂, e2, e⟩ := seqA_some e
  obtain ⟨v, st₃, e3, e⟩ := seqA_some e
  obtain ⟨u, st₄, e4, e⟩ := seqA_some e
  cases e
  refine wpAny_AugAssign_Name (h0.run σ st s a _ hI e1 _ fun τ₁ h₁ t₁ a' I₁ r₁ => h.run _ _ _ _ _ I₁ e2 _ fun τ₂ h₂ t₂ c' I₂ r₂ => ho _ _ _ _ _ _ _ _ _ I₂ (r₁.mono τ₂) r₂ e3 _ fun τ₃ h₃ t₃ v' I₃ r₃ => hg _ _ _ _ _ _ _ I₃ r₃ e4 _ fun τ₄ h₄ t₄ _ I₄ _ => ?_)
  rw [List.append_assoc, List.append_assoc, List.append_assoc] at I₄
  exact hQ _ _ _ _ I₄ rfl
theorem O_truthy : Op1 (model prog w) A I BR truthy (o1 aTruth) := Op1.pure fun a a' σ s b Q ha e hQ => by
  obtain ⟨i, rfl, e⟩ := onInt_some e
  cases e
  obtain ⟨t, rfl⟩ := ha
  refine truthy_int (hQ s.toks _ ?_)
  show _ = _
  rw [eqI_eq, bne]
  cases (i == 0) <;> rfl
end
end Mine
end
section
open PySem PySem.W PyProof.Rows PySem.Calls PySem.Spec
set_option maxRecDepth 100000
namespace Mine
def leK (κ κ' : Kp) : Prop := ∀ b o, κ b = some o → κ' b = some o
theorem leK.refl (κ : Kp) : leK κ κ := fun _ _ e => e

def withK (κ : Kp) (J : Addr) (o : Obj) : Kp := fun b => if b = J then some o else κ b
theorem leK.withK {κ : Kp} {J : Addr} {o : Obj} (h : κ J = none) : leK κ (withK κ J o) := fun b o' e => by
  unfold Mine.withK
  split
  · rename_i q; subst q; rw [h] at e; cases e
  · exact e
theorem withK_self (κ : Kp) (J : Addr) (o : Obj) : withK κ J o J = some o := by simp [withK]

section
variable {κ : Kp} {L J : Addr} {names : List Str} {pins : List (Nat × Addr)} {σ : List Addr} {st : AS} {h : Heap} {o : Obj}
theorem RH.addK {H : List AO} (R : RH κ σ H h) (hJ : J ∉ σ) (e : h.get? J = some o) : RH (withK κ J o) σ H h where
  keep := fun b o' q => by
    unfold withK at q
    split at q
    · rename_i z; cases q; rw [z]; exact e
    · exact R.keep b o' q
  off := fun a ha => by
    have hne : a ≠ J := fun z => hJ (by rw [← z]; exact ha)
    unfold withK
    rw [if_neg hne]
    exact R.off a ha
  nd := R.nd
  len := R.len
  objs := R.objs
theorem RF.addK (R : RF κ L names pins σ st h) (hJ : J ∉ σ) (hL : J ≠ L) (e : h.get? J = some o) : RF (withK κ J o) L names pins σ st h where
  rh := R.rh.addK hJ e
  ns := R.ns
  kL := by unfold withK; rw [if_neg (Ne.symm hL)]; exact R.kL
  oL := R.oL
  nd := R.nd
  pin := R.pin
theorem RF.dropK (R : RF (withK κ J o) L names pins σ st h) (kJ : κ J = none) : RF κ L names pins σ st h where
  rh := {
    keep := fun b o' q => R.rh.keep b o' (leK.withK kJ b o' q)
    off := fun a ha => by
      have := R.rh.off a ha
      unfold withK at this
      split at this
      · cases this
      · exact this
    nd := R.rh.nd
    len := R.rh.len
    objs := R.rh.objs }
  ns := R.ns
  kL := by
    have := R.kL
    unfold withK at this
    split at this
    · cases this
    · exact this
  oL := R.oL
  nd := R.nd
  pin := R.pin
theorem RF.J_off (R : RF (withK κ J o) L names pins σ st h) : J ∉ σ := fun hm => by
  have := R.rh.off J hm
  rw [withK_self] at this; cases this
theorem RF.grow (R : RF κ L names pins σ st h) {h' : Heap} (g : ∀ b o, h.get? b = some o → h'.get? b = some o) : RF κ L names pins σ st h' where
  rh := R.rh.grow g
  ns := let ⟨m, hn, hm⟩ := R.ns; ⟨m, hn.keeps g, hm⟩
  kL := R.kL
  oL := R.oL
  nd := R.nd
  pin := R.pin
theorem RF.turn (R : RF κ L names pins σ st h) {h' : Heap} (hJ : J ∉ σ) (kJ : κ J = none) (hL : J ≠ L) (b : Heap.ExtBut J h h') : RF κ L names pins σ st h' where
  rh := R.rh.off1 hJ kJ b
  ns := let ⟨m, hn, hm⟩ := R.ns; ⟨m, hn.extBut b (Ne.symm hL), hm⟩
  kL := R.kL
  oL := R.oL
  nd := R.nd
  pin := R.pin
theorem RF.fresh (R : RF κ L names pins σ st h) : h.objs.size ∉ σ ∧ κ h.objs.size = none ∧ h.objs.size ≠ L :=
  ⟨fun hm => absurd (R.rh.lt hm) (Nat.lt_irrefl _), R.rh.kp_none, fun e => by
    obtain ⟨m, hn, _⟩ := R.ns
    have := hn.lt
    rw [e] at this
    exact absurd this (Nat.lt_irrefl _)⟩
end

/- arguments -/
section
variable {prog : Program} {w : World} {A : Around} {I : List Addr → AS → Heap → Prop} {env : Env}
def aNil : AS → Option (List AV × AS) := okA []
noncomputable def aCons (f : AS → Option (AV × AS)) (g : AS → Option (List AV × AS)) : AS → Option (List AV × AS) := seqA f fun a => seqA g fun as => okA (a :: as)
theorem S_args_nil {pos : Pos} : S (model prog w) A I VRs (spliced (backTo pos (starEach [] env))) aNil := by
  refine .mk fun σ st s b st' hI e Q hQ => ?_
  cases e
  exact spliced_none (hQ [] s.heap s.toks _ (app_nil_heap hI) .nil)
theorem S_args_cons {e : PySem.Expr} {rest : List PySem.Expr} {pos : Pos} {f : AS → Option (AV × AS)} {g : AS → Option (List AV × AS)} (hf : S (model prog w) A I VR (eval e env) f) (hg : S (model prog w) A I VRs (spliced (backTo pos (starEach rest env))) g)
    (hs : starEach (e :: rest) env = (false, eval e env) :: starEach rest env := by rfl) : S (model prog w) A I VRs (spliced (backTo pos (starEach (e :: rest) env))) (aCons f g) := by
  refine .mk fun σ st s b st' hI e Q hQ => ?_
  obtain ⟨a, st₁, e1, e⟩ := seqA_some e
  obtain ⟨as, st₂, e2, e⟩ := seqA_some e
  cases e
  refine spliced_more (hf.run σ st s a _ hI e1 _ fun τ₁ h₁ t₁ a' I₁ r₁ => hg.run _ _ _ _ _ I₁ e2 _ fun τ₂ h₂ t₂ as' I₂ r₂ => ?_) hs
  rw [List.append_assoc] at I₂ r₂
  refine hQ _ _ _ _ I₂ (.cons ?_ r₂)
  rw [← List.append_assoc]
  exact r₁.mono τ₂

/-- a name that stands for one value, whatever the state -/
def NameIs (M : Model) (A : Around) (I : List Addr → AS → Heap → Prop) (env : Env) (x : Str) (v : Value) : Prop :=
  ∀ pos σ st s (Q E : Value → Shared → Prop), I σ st s.heap → Q v s → wpAny M A (eval (.Name x pos) env) Q E s

theorem S_CallB {x : Str} {p pos : Pos} {id : String} {e : PySem.Expr} {rest : List PySem.Expr} {fa : AS → Option (List AV × AS)} {g : List AV → AS → Option (AV × AS)} (hn : NameIs (model prog w) A I env x (.builtin id))
    (ha : S (model prog w) A I VRs (spliced (backTo pos (starEach (e :: rest) env))) fa) (ho : OpN (model prog w) A I VR (fun vs => call (.builtin id) vs) g)
    (hs : starEach (e :: rest) env = (false, eval e env) :: starEach rest env := by rfl) (hm : ((backTo pos (starEach rest env)).any fun x => x.1) = false := by rfl)
    (hc : eval (.Call (.Name x p) (e :: rest) [] pos) env = (do
          let f ← eval (.Name x p) env
          callWith pos f [] (backTo pos (starEach (e :: rest) env)) (backToKw pos (keywordEach [] env))) := by rfl) :
    S (model prog w) A I VR (eval (.Call (.Name x p) (e :: rest) [] pos) env) (seqA fa g) := by
  refine .mk fun σ st s b st' hI e Q hQ => ?_
  obtain ⟨as, st₁, e1, e⟩ := seqA_some e
  refine Call_ (hn _ σ st s _ _ hI (PyProof.Rows.callWith_builtin1 (ha.run σ st s as _ hI e1 _ fun τ₁ h₁ t₁ as' I₁ r₁ => ho _ _ _ _ _ _ _ I₁ r₁ e _ fun τ₂ h₂ t₂ x I₂ r₂ => ?_) hs hm)) hc
  rw [List.append_assoc] at I₂ r₂
  exact hQ _ _ _ _ I₂ r₂
theorem S_CallT {x : Str} {p pos : Pos} {T : String} {e : PySem.Expr} {rest : List PySem.Expr} {fa : AS → Option (List AV × AS)} {g : List AV → AS → Option (AV × AS)} (hn : NameIs (model prog w) A I env x (.type T))
    (ha : S (model prog w) A I VRs (spliced (backTo pos (starEach (e :: rest) env))) fa) (ho : OpN (model prog w) A I VR (fun vs => call (.type T) vs) g)
    (hs : starEach (e :: rest) env = (false, eval e env) :: starEach rest env := by rfl) (hm : ((backTo pos (starEach rest env)).any fun x => x.1) = false := by rfl)
    (hc : eval (.Call (.Name x p) (e :: rest) [] pos) env = (do
          let f ← eval (.Name x p) env
          callWith pos f [] (backTo pos (starEach (e :: rest) env)) (backToKw pos (keywordEach [] env))) := by rfl) :
    S (model prog w) A I VR (eval (.Call (.Name x p) (e :: rest) [] pos) env) (seqA fa g) := by
  refine .mk fun σ st s b st' hI e Q hQ => ?_
  obtain ⟨as, st₁, e1, e⟩ := seqA_some e
  refine Call_ (hn _ σ st s _ _ hI (PyProof.Rows.callWith_type1 (ha.run σ st s as _ hI e1 _ fun τ₁ h₁ t₁ as' I₁ r₁ => ho _ _ _ _ _ _ _ I₁ r₁ e _ fun τ₂ h₂ t₂ x I₂ r₂ => ?_) hs hm)) hc
  rw [List.append_assoc] at I₂ r₂
  exact hQ _ _ _ _ I₂ r₂

/- for over range(..) -/
def smallR (a b : Int) : Bool := decide (a.natAbs < 2 ^ 30) && decide (b.natAbs < 2 ^ 30)
theorem range_small {a b : Int} (h : smallR a b = true) : Builtin.Range.small a b 1 = true := by
  simp only [smallR, Bool.and_eq_true, decide_eq_true_eq] at h
  have hs : Builtin.Range.rangeSize a b 1 = ((b - a).toNat : Int) := by
    simp only [Builtin.Range.rangeSize]
    rw [if_pos (by omega)]
    split <;> omega
  unfold Builtin.Range.small
  rw [hs]
  simp only [Builtin.Range.rangeFitsLong, Bool.and_eq_true, Bool.or_eq_true, decide_eq_true_eq]
  refine ⟨⟨⟨⟨?_, ?_⟩, ?_⟩, ?_⟩, .inr ?_⟩
  · omega
  · omega
  · omega
  · omega
  · rw [if_pos (by omega)]
    simp only [Bool.and_eq_true, decide_eq_true_eq]
    omega
theorem range_size {a b : Int} : Builtin.Range.rangeSize a b 1 = ((b - a).toNat : Int) := by
  simp only [Builtin.Range.rangeSize]
  rw [if_pos (by omega)]
  split <;> omega
end
end Mine
end
section
open PySem PySem.W PyProof.Rows PySem.Calls PySem.Spec
set_option maxRecDepth 100000
namespace Mine
/- what a loop goes over -/
inductive Src where
  | rng (k : Int) (cnt : Nat)
  | lst (a j : Nat)

def IterAt (σ : List Addr) (J : Addr) : Src → Heap → Prop
  | .rng k cnt, h => IsRangeIter h J k (cnt : Int) 1
  | .lst a j, h => ∃ l, σ[a]? = some l ∧ h.IsListIter J l j

/-- the next item, and the rest -/
noncomputable def nextS (src : Src) (H : List AO) : Option (Option (AV × Src)) := @Src.rec (fun _ => Option (Option (AV × Src)))
  (fun k cnt => @Nat.rec (fun _ => Option (Option (AV × Src))) (some none) (fun n _ => some (some (.int k, .rng (addI k 1) n))) cnt)
  (fun a j => onList (nthR H a) fun xs => @Option.rec AV (fun _ => Option (Option (AV × Src))) (some none) (fun x => some (some (x, .lst a (Nat.succ j)))) (nthR xs j)) src
theorem nextS_lst {a j : Nat} {H : List AO} {r : Option (AV × Src)} (e : nextS (.lst a j) H = some r) : ∃ xs, H[a]? = some (.list xs) ∧ ((xs[j]? = none ∧ r = none) ∨ ∃ x, xs[j]? = some x ∧ r = some (x, .lst a (j + 1))) := by
  obtain ⟨xs, h1, e⟩ := onList_some (o := nthR H a) e
  rw [nthR_eq] at h1
  refine ⟨xs, h1, ?_⟩
  rw [nthR_eq] at e
  cases h : xs[j]? with
  | none => rw [h] at e; cases e; exact .inl ⟨rfl, rfl⟩
  | some x => rw [h] at e; cases e; exact .inr ⟨x, rfl, rfl⟩

theorem IterAt.mono {σ : List Addr} {J : Addr} {src : Src} {h : Heap} (i : IterAt σ J src h) (τ : List Addr) : IterAt (σ ++ τ) J src h := by
  cases src with
  | rng k c => exact i
  | lst a j => obtain ⟨l, e, q⟩ := i; exact ⟨l, get_app e τ, q⟩
theorem IterAt.obj {σ : List Addr} {J : Addr} {src : Src} {h : Heap} (i : IterAt σ J src h) : ∃ o, h.get? J = some o ∧ ∀ h' : Heap, h'.get? J = some o → IterAt σ J src h' := by
  cases src with
  | rng k c => exact ⟨_, i, fun _ e => e⟩
  | lst a j => obtain ⟨l, e, o, q, r⟩ := i; exact ⟨o, q, fun _ e' => ⟨l, e, o, e', r⟩⟩
theorem IterAt.rel {σ τ : List Addr} {J : Addr} {src : Src} {h h' : Heap} {o : Obj} (i : IterAt σ J src h) (e : h.get? J = some o) (e' : h'.get? J = some o) : IterAt (σ ++ τ) J src h' := by
  obtain ⟨o', e1, k⟩ := i.obj
  rw [e] at e1; cases e1
  exact (k h' e').mono τ
theorem IterAt.letGo {prog : Program} {w : World} {A : Around} {E : Value → Shared → Prop} {s : Shared} {σ : List Addr} {J : Addr} {a j : Nat} (i : IterAt σ J (.lst a j) s.heap) {elts : List PySem.Expr} {x1} {pos : Pos} {v : Value} {Q : Unit → Shared → Prop} (hQ : Q () s) (hv : ∃ i x, VR x (.ref i) v) :
    wpAny (model prog w) A (letOwnedTupleGo (.Tuple elts x1 pos) (.ref J) v) Q E s := by
  obtain ⟨l, _, q⟩ := i
  obtain ⟨_, _, T, _, rfl⟩ := hv
  exact wpAny_letOwnedTupleGo_listiter q hQ

section
variable {prog : Program} {w : World} {A : Around} {E : Value → Shared → Prop} {s : Shared}
theorem next_some {κ : Kp} {H : List AO} {σ : List Addr} {J : Addr} {src src' : Src} {x : AV} {Q : Option Value → Shared → Prop} (R : RH κ σ H s.heap) (i : IterAt σ J src s.heap) (e : nextS src H = some (some (x, src')))
    (hQ : ∀ h' tk' v, Heap.SameBut J s.heap h' → IterAt σ J src' h' → VR σ x v → Q (some v) { s with heap := h', toks := tk' }) : wpAny (model prog w) A (pyNext (.ref J)) Q E s := by
  cases src with
  | rng k c =>
    cases c with
    | zero => cases e
    | succ n =>
      cases e
      refine wpAny_pyNext_range_item i (by omega) fun h' it hs => hQ h' _ _ hs ?_ ⟨_, rfl⟩
      have e2 : ((n + 1 : Nat) : Int) - 1 = (n : Int) := by omega
      rw [e2] at it
      show IsRangeIter _ _ _ _ _
      rw [addI_eq]
      exact it
  | lst a j =>
    obtain ⟨l, hl, hit⟩ := i
    obtain ⟨xs, hx, e | ⟨y, hy, e⟩⟩ := nextS_lst e
    · cases e.2
    · cases e
      obtain ⟨a', o, h1, h2, vs, n, rfl, hvs⟩ := R.objs a _ hx
      rw [hl] at h1; cases h1
      obtain ⟨v, hv1, hv2⟩ := hvs.get hy
      exact wpAny_pyNext_list_item (i := j) (l := l) (items := vs.toArray) (x := v) hit ⟨_, h2, rfl, _, rfl⟩ (by simpa using hv1) fun h' it hs => hQ h' _ _ hs ⟨l, hl, it⟩ hv2
theorem next_none {κ : Kp} {H : List AO} {σ : List Addr} {J : Addr} {src : Src} {Q : Option Value → Shared → Prop} (hh : A.handled = none) (R : RH κ σ H s.heap) (i : IterAt σ J src s.heap) (e : nextS src H = some none)
    (hQ : ∀ h', Heap.ExtBut J s.heap h' → Q none { s with heap := h' }) : wpAny (model prog w) A (pyNext (.ref J)) Q E s := by
  cases src with
  | rng k c =>
    cases c with
    | zero => exact wpAny_pyNext_range_end hh i (by simp) hQ
    | succ n => cases e
  | lst a j =>
    obtain ⟨l, hl, hit⟩ := i
    obtain ⟨xs, hx, ⟨hy, _⟩ | ⟨y, hy, e⟩⟩ := nextS_lst e
    · obtain ⟨a', o, h1, h2, vs, n, rfl, hvs⟩ := R.objs a _ hx
      rw [hl] at h1; cases h1
      exact wpAny_pyNext_list_end (i := j) (l := l) (items := vs.toArray) hh hit ⟨_, h2, rfl, _, rfl⟩ (by simpa using hvs.get_none hy) hQ
    · cases e
end

/- loops -/
noncomputable def loopF (g : AV → AS → Option (Unit × AS)) (body : AS → Option (AF × AS)) (n : Nat) : Src → AS → Option (AF × AS) :=
  @Nat.rec (fun _ => Src → AS → Option (AF × AS)) (fun _ _ => none)
    (fun _ ih src st => onSome (nextS src st.heap) fun r => @Option.rec (AV × Src) (fun _ => Option (AF × AS)) (some (.next, st))
      (fun p => seqA (g p.1) (fun _ => seqA body fun fl st => @AF.rec (fun _ => Option (AF × AS)) (ih p.2 st) (some (.brk, st)) (ih p.2 st) (fun v => some (.ret v, st)) fl) st) r) n
theorem loopF_zero (g body src st) : loopF g body 0 src st = none := rfl
theorem loopF_succ (g body n src st) : loopF g body (n + 1) src st = onSome (nextS src st.heap) fun r => @Option.rec (AV × Src) (fun _ => Option (AF × AS)) (some (.next, st))
      (fun p => seqA (g p.1) (fun _ => seqA body fun fl st => @AF.rec (fun _ => Option (AF × AS)) (loopF g body n p.2 st) (some (.brk, st)) (loopF g body n p.2 st) (fun v => some (.ret v, st)) fl) st) r := rfl

noncomputable def endLoop (orelse : AS → Option (AF × AS)) (fl : AF) (st : AS) : Option (AF × AS) := @AF.rec (fun _ => Option (AF × AS)) (orelse st) (some (.next, st)) none (fun v => some (.ret v, st)) fl

/-- the source of a loop -/
structure SrcS (M : Model) (A : Around) (κ : Kp) (L : Addr) (I : List Addr → AS → Heap → Prop) (t : Sem Value) (f : AS → Option (Src × AS)) : Prop where
  run : ∀ σ st s src st', I σ st s.heap → f st = some (src, st') → ∀ Q : Value → Shared → Prop,
    (∀ τ h' tk' J, I (σ ++ τ) st' h' → J ∉ σ ++ τ → κ J = none → J ≠ L → J < h'.objs.size → IterAt (σ ++ τ) J src h' → Q (.ref J) { s with heap := h', toks := tk' }) → wpAny M A t (fun x s₁ => wpAny M A (pyIter x) Q NoE s₁) NoE s

noncomputable def aFor (fs : AS → Option (Src × AS)) (g : AV → AS → Option (Unit × AS)) (fb fo : AS → Option (AF × AS)) : AS → Option (AF × AS) := seqA fs fun src => seqA (loopF g fb 40 src) fun fl => endLoop fo fl

section
variable {prog : Program} {w : World} {A : Around} {κ : Kp} {L : Addr} {names : List Str} {pins : List (Nat × Addr)} {env : Env}

theorem forSrc {target : PySem.Expr} {body orelse : List Stmt} {g : AV → AS → Option (Unit × AS)} {fb fo : AS → Option (AF × AS)} (hh : A.handled = none)
    (hg : ∀ κ', leK κ κ' → Op1 (model prog w) A (RF κ' L names pins) UR (assign target env) g)
    (hb : ∀ κ', leK κ κ' → S (model prog w) A (RF κ' L names pins) FR (execs body env) fb) (ho : S (model prog w) A (RF κ L names pins) FR (execs orelse env) fo)
    (hgo : ∀ σ J src x v s (Q : Unit → Shared → Prop) (E : Value → Shared → Prop), IterAt σ J src s.heap → VR σ x v → (∃ st r, g x st = some r) → Q () s → wpAny (model prog w) A (letOwnedTupleGo target (.ref J) v) Q E s)
    {σ : List Addr} {s : Shared} {J : Addr} {cnt : Nat} {src : Src} {st st' : AS} {b : AF} (hI : RF κ L names pins σ st s.heap) (hJ : J ∉ σ) (kJ : κ J = none) (hL : J ≠ L) (hit : IterAt σ J src s.heap)
    (e : seqA (loopF g fb cnt src) (fun fl => endLoop fo fl) st = some (b, st')) {R : Result → Shared → Prop}
    (hQ : ∀ τ h' tk' a, RF κ L names pins (σ ++ τ) st' h' → FR (σ ++ τ) b a → R (.ok a) { s with heap := h', toks := tk' }) :
    codeAny (model prog w) A (.forLoop target (.ref J) body orelse env) R s := by
  refine codeAny_forLoop_any (fun n s₁ => ∃ τ st₁ src₁ h₁ tk₁, s₁ = { s with heap := h₁, toks := tk₁ } ∧ RF κ L names pins (σ ++ τ) st₁ h₁ ∧ J ∉ σ ++ τ ∧ IterAt (σ ++ τ) J src₁ h₁ ∧ seqA (loopF g fb n src₁) (fun fl => endLoop fo fl) st₁ = some (b, st')) ?_ cnt
    ⟨[], st, src, s.heap, s.toks, rfl, by rw [List.append_nil]; exact hI, by rw [List.append_nil]; exact hJ, by rw [List.append_nil]; exact hit, e⟩
  rintro n s₁ ⟨τ, st₁, src₁, h₁, tk₁, rfl, R₁, J₁, it₁, e₁⟩
  obtain ⟨fl₀, st₀, el, eo⟩ := seqA_some e₁
  cases n with
  | zero => cases el
  | succ n =>
    rw [loopF_succ] at el
    obtain ⟨r, hn, el⟩ := onSome_some el
    cases r with
    | none =>
      cases el
      refine next_none hh R₁.rh it₁ hn fun h' he => ?_
      have R₂ := R₁.turn J₁ kJ hL he
      refine ho.mono R₂ eo fun τ₂ h₂ t₂ a I₂ r₂ => ?_
      rw [List.append_assoc] at I₂ r₂
      exact hQ _ _ _ _ I₂ r₂
    | some p =>
      obtain ⟨x, src₂⟩ := p
      obtain ⟨u, st₂, hg1, el⟩ := seqA_some el
      obtain ⟨fl, st₃, hb1, el⟩ := seqA_some el
      refine next_some R₁.rh it₁ hn fun h' t' v hs it' hv => ?_
      have R₂ := R₁.turn J₁ kJ hL hs.extBut
      obtain ⟨oJ, eJ, _⟩ := it'.obj
      have R₃ := R₂.addK J₁ hL eJ
      have le := leK.withK (o := oJ) kJ
      refine hgo _ J src₂ x v _ _ _ it' hv ⟨_, _, hg1⟩ ?_
      refine wpAny_mono ((hg _ le) x _ _ _ _ _ _ R₃ hv hg1 (fun _ s₂ => wpAny _ A _ _ _ s₂) fun τ₂ h₂ t₂ _ R₄ _ => ?_) (fun _ _ x => x) fun _ _ x => x.elim
      refine (hb _ le).mono R₄ hb1 fun τ₃ h₃ t₃ a R₅ r₅ => ?_
      have J₅ := R₅.J_off
      have it₅ : IterAt (σ ++ τ ++ (τ₂ ++ τ₃)) J src₂ h₃ := it'.rel eJ (R₅.rh.keep J _ (withK_self ..))
      have R₆ := R₅.dropK kJ
      rw [List.append_assoc, List.append_assoc] at R₆ J₅ r₅
      rw [List.append_assoc] at it₅
      have again : loopF g fb n src₂ st₃ = some (fl₀, st₀) → seqA (loopF g fb n src₂) (fun fl => endLoop fo fl) st₃ = some (b, st') := fun q => by
        show @Option.rec _ _ _ _ (loopF g fb n src₂ st₃) = _
        rw [q]; exact eo
      cases fl with
      | next => cases r₅; exact ⟨n, Nat.lt_succ_self _, _, st₃, src₂, h₃, t₃, rfl, R₆, J₅, it₅, again el⟩
      | cont => cases r₅; exact ⟨n, Nat.lt_succ_self _, _, st₃, src₂, h₃, t₃, rfl, R₆, J₅, it₅, again el⟩
      | brk => cases r₅; cases el; cases eo; exact hQ _ _ _ _ R₆ rfl
      | ret v => obtain ⟨v', rfl, hv⟩ := r₅; cases el; cases eo; exact hQ _ _ _ _ R₆ ⟨v', rfl, hv⟩

theorem S_For {target iter : PySem.Expr} {fp : Pos} {body orelse : List Stmt} {fs : AS → Option (Src × AS)} {g : AV → AS → Option (Unit × AS)} {fb fo : AS → Option (AF × AS)} (hh : A.handled = none)
    (hs : SrcS (model prog w) A κ L (RF κ L names pins) (eval iter env) fs)
    (hg : ∀ κ', leK κ κ' → Op1 (model prog w) A (RF κ' L names pins) UR (assign target env) g)
    (hb : ∀ κ', leK κ κ' → S (model prog w) A (RF κ' L names pins) FR (execs body env) fb) (ho : S (model prog w) A (RF κ L names pins) FR (execs orelse env) fo)
    (hgo : ∀ σ J src x v s (Q : Unit → Shared → Prop) (E : Value → Shared → Prop), IterAt σ J src s.heap → VR σ x v → (∃ st r, g x st = some r) → Q () s → wpAny (model prog w) A (letOwnedTupleGo target (.ref J) v) Q E s)
    (hf : ∀ x, foldedSetIterable iter env x = pure x := by intro _; rfl) :
    S (model prog w) A (RF κ L names pins) FR (exec (.For target iter body orelse fp) env) (aFor fs g fb fo) := by
  refine .mk fun σ st s b st' hI e Q hQ => ?_
  obtain ⟨src, st₁, e1, e⟩ := seqA_some e
  refine wpAny_For (hs.run σ st s src st₁ hI e1 _ fun τ h' tk' J R₁ J₁ kJ hL _ it => ?_) hf
  refine forSrc (s := { s with heap := h', toks := tk' }) hh hg hb ho hgo R₁ J₁ kJ hL it e fun τ₂ h₂ t₂ a R₂ r₂ => ?_
  rw [List.append_assoc] at R₂ r₂
  exact hQ _ _ _ _ R₂ r₂

theorem go_name {x : Str} {px : Pos} : ∀ (g : AV → AS → Option (Unit × AS)) σ J src y v s (Q : Unit → Shared → Prop) (E : Value → Shared → Prop), IterAt σ J src s.heap → VR σ y v → (∃ st r, g y st = some r) → Q () s → wpAny (model prog w) A (letOwnedTupleGo (.Name x px) (.ref J) v) Q E s :=
  fun _ _ _ _ _ _ _ _ _ _ _ _ hQ => wpAny_pure hQ

/- the sources -/
noncomputable def rngA (as : List AV) (k : Int → Int → Option (Src × AS)) : Option (Src × AS) := @List.rec AV (fun _ => Option (Src × AS)) none
  (fun a r _ => onInt a fun x => @List.rec AV (fun _ => Option (Src × AS)) (k 0 x) (fun b r2 _ => onInt b fun y => @List.rec AV (fun _ => Option (Src × AS)) (k x y) (fun _ _ _ => none) r2) r) as
theorem rngA_some {as : List AV} {k : Int → Int → Option (Src × AS)} {r : Src × AS} (e : rngA as k = some r) : (∃ b, as = [.int b] ∧ k 0 b = some r) ∨ (∃ a b, as = [.int a, .int b] ∧ k a b = some r) := by
  cases as with
  | nil => cases e
  | cons a as =>
    obtain ⟨x, rfl, e⟩ := onInt_some (a := a) e
    cases as with
    | nil => exact .inl ⟨x, rfl, e⟩
    | cons b as =>
      obtain ⟨y, rfl, e⟩ := onInt_some (a := b) e
      cases as with
      | nil => exact .inr ⟨x, y, rfl, e⟩
      | cons c as => cases e
noncomputable def rngK (st : AS) (a b : Int) : Option (Src × AS) := onNat a fun m => onNat b fun n => onBool (Nat.ble m 1000) (onBool (Nat.ble n 1000) (some (.rng a (Nat.sub n m), st)))
theorem rngK_some {st : AS} {a b : Int} {r : Src × AS} (e : rngK st a b = some r) : smallR a b = true ∧ r = (.rng a (b - a).toNat, st) := by
  obtain ⟨m, rfl, e⟩ := onNat_some e
  obtain ⟨n, rfl, e⟩ := onNat_some e
  obtain ⟨h1, e⟩ := onBool_some e
  obtain ⟨h2, e⟩ := onBool_some e
  cases e
  rw [Nat.ble_eq] at h1 h2
  refine ⟨?_, ?_⟩
  · simp only [smallR, Bool.and_eq_true, decide_eq_true_eq]; omega
  · have : Nat.sub n m = ((n : Int) - (m : Int)).toNat := by show n - m = _; omega
    rw [this]
noncomputable def aRng (fa : AS → Option (List AV × AS)) : AS → Option (Src × AS) := seqA fa fun as st => rngA as (rngK st)
theorem Src_range {p cp : Pos} {e0 : PySem.Expr} {rest : List PySem.Expr} {fa : AS → Option (List AV × AS)}
    (hn : NameIs (model prog w) A (RF κ L names pins) env (Str.ofString "range") (.type "range"))
    (ha : S (model prog w) A (RF κ L names pins) VRs (spliced (backTo cp (starEach (e0 :: rest) env))) fa)
    (hs : starEach (e0 :: rest) env = (false, eval e0 env) :: starEach rest env := by rfl) (hm : ((backTo cp (starEach rest env)).any fun x => x.1) = false := by rfl)
    (hc : eval (.Call (.Name (Str.ofString "range") p) (e0 :: rest) [] cp) env = (do
          let f ← eval (.Name (Str.ofString "range") p) env
          callWith cp f [] (backTo cp (starEach (e0 :: rest) env)) (backToKw cp (keywordEach [] env))) := by rfl) :
    SrcS (model prog w) A κ L (RF κ L names pins) (eval (.Call (.Name (Str.ofString "range") p) (e0 :: rest) [] cp) env) (aRng fa) := by
  refine .mk fun σ st s b st' hI e Q hQ => ?_
  obtain ⟨as, st₁, e1, e⟩ := seqA_some e
  refine Call_ (hn _ σ st s _ _ hI (PyProof.Rows.callWith_type1 (ha.run σ st s as _ hI e1 _ fun τ₁ h₁ t₁ as' I₁ r₁ => ?_) hs hm)) hc
  have go : ∀ (a b₀ : Int) (t u v : Tok) (h₂ : Heap) (t₂ : Nat) (r : Addr), RF κ L names pins (σ ++ τ₁) st₁ h₂ → IsRange h₂ r a b₀ 1 t u v → smallR a b₀ = true → b = .rng a (b₀ - a).toNat → st' = st₁ →
      wpAny (model prog w) A (pyIter (.ref r)) Q NoE { s with heap := h₂, toks := t₂ } := by
    rintro a b₀ t u v h₂ t₂ r R₂ hr hsm rfl rfl
    refine wpAny_pyIter_range hr (range_small hsm) ?_
    obtain ⟨f1, f2, f3⟩ := R₂.fresh
    refine hQ τ₁ _ _ _ (R₂.grow fun b o q => Heap.get?_push_of_some _ q) f1 f2 f3 (by rw [Heap.size_push]; exact Nat.lt_succ_self _) ?_
    show IsRangeIter _ _ _ _ _
    rw [range_size]; exact Heap.get?_push_size _ rfl
  rcases rngA_some e with ⟨b₁, rfl, e'⟩ | ⟨a₁, b₁, rfl, e'⟩
  · obtain ⟨hsm, q⟩ := rngK_some e'
    cases q
    cases r₁ with
    | cons q1 q2 => cases q2; obtain ⟨t, rfl⟩ := q1; exact call_range_1 (go _ _ _ _ _ _ _ _ (I₁.grow fun b o q => Heap.get?_push_of_some _ q) (Heap.get?_push_size _ rfl) hsm rfl rfl)
  · obtain ⟨hsm, q⟩ := rngK_some e'
    cases q
    cases r₁ with
    | cons q1 q2 => cases q2 with | cons q2 q3 => cases q3; obtain ⟨t, rfl⟩ := q1; obtain ⟨u, rfl⟩ := q2; exact call_range_2 (go _ _ _ _ _ _ _ _ (I₁.grow fun b o q => Heap.get?_push_of_some _ q) (Heap.get?_push_size _ rfl) hsm rfl rfl)

noncomputable def aLst (f : AS → Option (AV × AS)) : AS → Option (Src × AS) := seqA f fun v st => onRef v fun a => onList (nthR st.heap a) fun _ => some (.lst a 0, st)
theorem Src_list {x : PySem.Expr} {f : AS → Option (AV × AS)} (h : S (model prog w) A (RF κ L names pins) VR (eval x env) f) : SrcS (model prog w) A κ L (RF κ L names pins) (eval x env) (aLst f) := by
  refine .mk fun σ st s b st' hI e Q hQ => ?_
  obtain ⟨v, st₁, e1, e⟩ := seqA_some e
  refine h.run σ st s v st₁ hI e1 _ fun τ₁ h₁ t₁ v' I₁ r₁ => ?_
  obtain ⟨a, rfl, e⟩ := onRef_some e
  obtain ⟨xs, hx, e⟩ := onList_some e
  rw [nthR_eq] at hx
  cases e
  obtain ⟨l, o, rfl, hl, h2, vs, n, rfl, hvs⟩ := I₁.rh.read hx r₁
  refine wpAny_pyIter_list (items := vs.toArray) ⟨_, h2, rfl, _, rfl⟩ ?_
  obtain ⟨f1, f2, f3⟩ := I₁.fresh
  exact hQ τ₁ _ _ _ (I₁.grow fun b o q => Heap.get?_push_of_some _ q) f1 f2 f3 (by rw [Heap.size_push]; exact Nat.lt_succ_self _) ⟨l, hl, _, Heap.get?_push_size _ rfl, rfl, rfl⟩

/- while -/
noncomputable def loopW (t : AS → Option (Bool × AS)) (body : AS → Option (AF × AS)) (n : Nat) : AS → Option (AF × AS) :=
  @Nat.rec (fun _ => AS → Option (AF × AS)) (fun _ => none)
    (fun _ ih => aIf t (seqA body fun fl st => @AF.rec (fun _ => Option (AF × AS)) (ih st) (some (.next, st)) (ih st) (fun v => some (.ret v, st)) fl) (okA .next)) n
theorem loopW_succ (t body n) : loopW t body (n + 1) = aIf t (seqA body fun fl st => @AF.rec (fun _ => Option (AF × AS)) (loopW t body n st) (some (.next, st)) (loopW t body n st) (fun v => some (.ret v, st)) fl) (okA .next) := rfl
theorem S_While {I : List Addr → AS → Heap → Prop} {test : PySem.Expr} {body : List Stmt} {pos : Pos} {t : AS → Option (Bool × AS)} {fb : AS → Option (AF × AS)} (ht : S (model prog w) A I BR (isTrue test env (eval test env)) t)
    (hb : S (model prog w) A I FR (execs body env) fb) : S (model prog w) A I FR (exec (.While test body [] pos) env) (loopW t fb 40) := by
  refine .mk fun σ st s b st' hI e Q hQ => ?_
  refine wpAny_While ?_
  refine codeAny_whileLoop (fun n s₁ => ∃ τ st₁ h₁ tk₁, s₁ = { s with heap := h₁, toks := tk₁ } ∧ I (σ ++ τ) st₁ h₁ ∧ loopW t fb n st₁ = some (b, st')) ?_ 40 ⟨[], st, s.heap, s.toks, rfl, app_nil_heap hI, e⟩
  rintro n s₁ ⟨τ, st₁, h₁, tk₁, rfl, R₁, e₁⟩
  cases n with
  | zero => cases e₁
  | succ n =>
    rw [loopW_succ] at e₁
    rcases aIf_some e₁ with ⟨st₂, e2, e₁⟩ | ⟨st₂, e2, e₁⟩
    · refine ht.mono R₁ e2 fun τ₂ h₂ t₂ a I₂ r₂ => ?_
      cases r₂
      rw [if_pos rfl]
      obtain ⟨fl, st₃, e3, e₁⟩ := seqA_some e₁
      refine hb.mono I₂ e3 fun τ₃ h₃ t₃ a I₃ r₃ => ?_
      rw [List.append_assoc, List.append_assoc] at I₃ r₃
      cases fl with
      | next => cases r₃; exact ⟨n, Nat.lt_succ_self _, _, st₃, h₃, t₃, rfl, I₃, e₁⟩
      | cont => cases r₃; exact ⟨n, Nat.lt_succ_self _, _, st₃, h₃, t₃, rfl, I₃, e₁⟩
      | brk => cases r₃; cases e₁; exact hQ _ _ _ _ I₃ rfl
      | ret v => obtain ⟨v', rfl, hv⟩ := r₃; cases e₁; exact hQ _ _ _ _ I₃ ⟨v', rfl, hv⟩
    · cases e₁
      refine ht.mono R₁ e2 fun τ₂ h₂ t₂ a I₂ r₂ => ?_
      cases r₂
      rw [if_neg Bool.false_ne_true]
      rw [List.append_assoc] at I₂
      exact wpAny_execs_nil (hQ _ _ _ _ I₂ rfl)
end
end Mine
end
section
open PySem PySem.W PyProof.Rows PySem.Calls PySem.Spec
set_option maxRecDepth 100000
namespace Mine
section
variable {prog : Program} {w : World} {A : Around} {κ : Kp} {I : List Addr → AS → Heap → Prop} {env : Env}

/- making and changing objects -/
theorem inv_alloc (V : IsInv κ I) {σ st h} (hI : I σ st h) {ao : AO} {o : Obj} (ho : OR σ ao o) (hf : o.isFreed = false) : I (σ ++ [h.objs.size]) { st with heap := st.heap ++ [ao] } (h.push o) :=
  V.step hI ((V.rh hI).alloc (ho.mono _) hf) (fun b o' _ e => Heap.get?_push_of_some _ e) fun a ha => by
    rw [List.mem_singleton.mp ha]
    cases e : h.get? h.objs.size with
    | none => rfl
    | some o => exact absurd (Heap.lt_size e) (Nat.lt_irrefl _)
theorem inv_set (V : IsInv κ I) {σ st h h'} (hI : I σ st h) {i : Nat} {a : Addr} {ao' : AO} {o' : Obj} (hi : σ[i]? = some a) (g : h'.get? a = some o') (b : Heap.SameBut a h h') (ho : OR σ ao' o') : I σ { st with heap := st.heap.set i ao' } h' := by
  have := V.step (τ := []) hI (by rw [List.append_nil]; exact (V.rh hI).set hi g b ho) (fun c o hc e => (b.2 c (fun q => hc (q ▸ List.mem_of_getElem? hi))).trans e) fun a ha => by cases ha
  rw [List.append_nil] at this
  exact this
theorem inv_grow (V : IsInv κ I) {σ st h h'} (hI : I σ st h) (g : ∀ b o, h.get? b = some o → h'.get? b = some o) : I σ st h' := by
  have := V.step (τ := []) (H' := st.heap) hI (by rw [List.append_nil]; exact (V.rh hI).grow g) (fun c o _ e => g c o e) fun a ha => by cases ha
  rw [List.append_nil] at this
  exact this

noncomputable def aNew (mk : List AV → AO) : List AV → AS → Option (AV × AS) := fun vs st => onBool (Nat.ble (lenR vs) 1000) (some (.ref (lenR st.heap), ⟨st.loc, st.cmp, appR st.heap [mk vs]⟩))
theorem aNew_some {mk : List AV → AO} {vs : List AV} {st st' : AS} {v : AV} (e : aNew mk vs st = some (v, st')) : vs.length ≤ 1000 ∧ v = .ref st.heap.length ∧ st' = { st with heap := st.heap ++ [mk vs] } := by
  obtain ⟨h, e⟩ := onBool_some e
  cases e
  rw [Nat.ble_eq, lenR_eq] at h
  exact ⟨h, by rw [lenR_eq], by rw [appR_eq]⟩

theorem vr_new {σ : List Addr} {H : List AO} {h : Heap} (R : RH κ σ H h) (a : Addr) : VR (σ ++ [a]) (.ref H.length) (.ref a) := ⟨a, by rw [R.len]; simp, rfl⟩

noncomputable def aList (fa : AS → Option (List AV × AS)) : AS → Option (AV × AS) := seqA fa (aNew .list)
noncomputable def aTuple (fa : AS → Option (List AV × AS)) : AS → Option (AV × AS) := seqA fa (aNew .tuple)
theorem sizeLine_big : 1000 ≤ sizeLine := by decide
theorem S_List (V : IsInv κ I) {elts : List PySem.Expr} {pos : Pos} {fa : AS → Option (List AV × AS)} (h : S (model prog w) A I VRs (spliced (backTo pos (starEach elts env))) fa) : S (model prog w) A I VR (eval (.List elts pos) env) (aList fa) := by
  refine .mk fun σ st s b st' hI e Q hQ => ?_
  obtain ⟨vs, st₁, e1, e⟩ := seqA_some e
  obtain ⟨hl, rfl, rfl⟩ := aNew_some e
  · skip
    refine wpAny_List (h.run σ st s vs _ hI e1 _ fun τ₁ h₁ t₁ vs' I₁ r₁ => ⟨by rw [r₁.length]; exact Nat.le_trans hl sizeLine_big, ?_⟩)
    have R := V.rh I₁
    have I₂ := inv_alloc V I₁ (ao := .list vs) (o := listOf (List.toArray vs') 0) ⟨vs', 0, rfl, r₁⟩ rfl
    rw [List.append_assoc] at I₂
    refine hQ _ _ _ _ I₂ ?_
    rw [← List.append_assoc]
    exact vr_new R _
theorem S_Tuple (V : IsInv κ I) {elts : List PySem.Expr} {k : Nat} {pos : Pos} {fa : AS → Option (List AV × AS)} (h : S (model prog w) A I VRs (spliced (backTo pos (starEach elts env))) fa) : S (model prog w) A I VR (eval (.Tuple elts k pos) env) (aTuple fa) := by
  refine .mk fun σ st s b st' hI e Q hQ => ?_
  obtain ⟨vs, st₁, e1, e⟩ := seqA_some e
  obtain ⟨hl, rfl, rfl⟩ := aNew_some e
  · skip
    refine wpAny_Tuple (h.run σ st s vs _ hI e1 _ fun τ₁ h₁ t₁ vs' I₁ r₁ => ⟨by rw [r₁.length]; exact Nat.le_trans hl sizeLine_big, ?_⟩)
    have R := V.rh I₁
    have I₂ := inv_alloc V I₁ (ao := .tuple vs) (o := tupO (List.toArray vs') 0) ⟨vs', 0, rfl, r₁⟩ rfl
    rw [List.append_assoc] at I₂
    refine hQ _ _ _ _ I₂ ?_
    rw [← List.append_assoc]
    exact vr_new R _

/- reading and writing lists -/
noncomputable def aItem (a i : AV) (st : AS) : Option (AV × AS) := onInt i fun k => onNat k fun n => onBool (Nat.ble n 1000) (@AV.rec (fun _ => Option (AV × AS)) none (fun _ => none) (fun _ => none)
  (fun x => onSome (nthR x n) fun c => some (.str [c], st)) (fun a => onList (nthR st.heap a) fun xs => onSome (nthR xs n) fun x => some (x, st)) a)
theorem aItem_some {a i v : AV} {st st' : AS} (e : aItem a i st = some (v, st')) : st' = st ∧ ∃ n : Nat, i = .int (n : Int) ∧ n ≤ 1000 ∧ ((∃ x c, a = .str x ∧ x[n]? = some c ∧ v = .str [c]) ∨ (∃ r xs, a = .ref r ∧ st.heap[r]? = some (.list xs) ∧ xs[n]? = some v)) := by
  obtain ⟨k, rfl, e⟩ := onInt_some e
  obtain ⟨n, rfl, e⟩ := onNat_some e
  obtain ⟨h, e⟩ := onBool_some e
  rw [Nat.ble_eq] at h
  cases a with
  | str x =>
    obtain ⟨c, h1, e⟩ := onSome_some (o := nthR x n) e
    cases e
    rw [nthR_eq] at h1
    exact ⟨rfl, n, rfl, h, .inl ⟨x, c, rfl, h1, rfl⟩⟩
  | ref r =>
    obtain ⟨xs, h1, e⟩ := onList_some (o := nthR st.heap r) e
    obtain ⟨x, h2, e⟩ := onSome_some e
    cases e
    rw [nthR_eq] at h1 h2
    exact ⟨rfl, n, rfl, h, .inr ⟨r, xs, rfl, h1, h2⟩⟩
  | none => cases e
  | bool b => cases e
  | int b => cases e
theorem get_item (V : IsInv κ I) {a i v : AV} {a' i' : Value} {σ st s st'} {E : Value → Shared → Prop} (hI : I σ st s.heap) (ha : VR σ a a') (hi : VR σ i i') (e : aItem a i st = some (v, st')) {Q : Value → Shared → Prop}
    (hQ : ∀ v' tk', VR σ v v' → st' = st → Q v' { s with toks := tk' }) : wpAny (model prog w) A (getItem a' i') Q E s ∧ ∃ T id, s.TypeIs a' T ∧ typeLookup (.type T) (Str.ofString "__getitem__") = pure (some (.builtin id)) := by
  obtain ⟨rfl, n, rfl, hn, ⟨x, c, rfl, h1, rfl⟩ | ⟨r, xs, rfl, h1, h2⟩⟩ := aItem_some e
  · obtain ⟨t, rfl⟩ := ha
    obtain ⟨u, rfl⟩ := hi
    refine ⟨P.getItem_str (c := c) ?_ ?_ (hQ _ _ ⟨_, rfl⟩ rfl), "str", _, typeIs_str s _ t, PySem.F.slot_str_getitem.lookup⟩
    · simp only [Bool.or_eq_false_iff, decide_eq_false_iff_not]
      omega
    · have hkl : n < x.length := (List.getElem?_eq_some_iff.mp h1).1
      have e1 : seqIndex? (n : Int) (Str.length ⟨x.toArray⟩) = some n := by
        have e2 : Str.length ⟨x.toArray⟩ = x.length := by simp [Str.length]
        rw [e2]
        unfold seqIndex?
        have : ¬ (n : Int) < 0 := by omega
        simp [this]
        omega
      rw [e1]
      show (x.toArray)[n]? = some c
      simpa using h1
  · obtain ⟨l, o, rfl, hl, h3, vs, m, rfl, hvs⟩ := (V.rh hI).read h1 ha
    obtain ⟨t, rfl⟩ := hi
    obtain ⟨v', hv1, hv2⟩ := hvs.get h2
    have hL : s.heap.IsList l (List.toArray vs) := ⟨_, h3, rfl, _, rfl⟩
    exact ⟨wpAny_getItem_list hL (by omega) (by omega) (by simpa using hv1) (hQ v' s.toks hv2 rfl), "list", _, hL.typeIs, slot_list_getitem.lookup⟩
theorem O_item (V : IsInv κ I) {value slice : PySem.Expr} (hs : ∀ o i, subscripted slice false o i = operate [o, i] (getItem o i) := by intro _ _; rfl) :
    Op2 (model prog w) A I VR (fun o i => subscriptTail value slice o i) aItem := by
  intro a c a' c' σ st s b st' hI ha hc e Q hQ
  obtain ⟨h, T, id, hT, hl⟩ := get_item (E := NoE) (A := A) V hI ha hc e (Q := Q) fun v' tk' hv q => by
    subst q
    exact hQ [] s.heap tk' v' (app_nil_heap hI) (hv.mono [])
  exact tail_any hT hl h (hs _ _)
noncomputable def aSub (fo fi : AS → Option (AV × AS)) : AS → Option (AV × AS) := seqA fo fun a => seqA fi fun i => aItem a i
theorem S_Sub (V : IsInv κ I) {value slice : PySem.Expr} {pos : Pos} {fo fi : AS → Option (AV × AS)} (ho : S (model prog w) A I VR (eval value env) fo) (hi : S (model prog w) A I VR (eval slice env) fi)
    (hs : ∀ o i, subscripted slice false o i = operate [o, i] (getItem o i) := by intro _ _; rfl) : S (model prog w) A I VR (eval (.Subscript value slice pos) env) (aSub fo fi) := by
  refine .mk fun σ st s b st' hI e Q hQ => ?_
  obtain ⟨a, st₁, e1, e⟩ := seqA_some e
  obtain ⟨c, st₂, e2, e⟩ := seqA_some e
  refine Subscript_ (ho.run σ st s a st₁ hI e1 _ fun τ₁ h₁ t₁ a' I₁ r₁ => hi.run _ _ _ _ _ I₁ e2 _ fun τ₂ h₂ t₂ c' I₂ r₂ => O_item V hs _ _ _ _ _ _ _ _ _ I₂ (r₁.mono τ₂) r₂ e _ fun τ₃ h₃ t₃ x I₃ r₃ => ?_)
  rw [List.append_assoc, List.append_assoc] at I₃ r₃
  exact hQ _ _ _ _ I₃ r₃

noncomputable def aPut (a i v : AV) (st : AS) : Option (Unit × AS) := onRef a fun r => onInt i fun k => onNat k fun n => onList (nthR st.heap r) fun xs => onBool (Nat.ble n 1000) (onBool (Nat.ble (Nat.succ n) (lenR xs)) (some ((), ⟨st.loc, st.cmp, setR st.heap (.list (setR xs v n)) r⟩)))
theorem put_list (V : IsInv κ I) {a i v : AV} {a' i' v' : Value} {σ st s st'} {u : Unit} {E : Value → Shared → Prop} (hI : I σ st s.heap) (ha : VR σ a a') (hi : VR σ i i') (hv : VR σ v v') (e : aPut a i v st = some (u, st')) {Q : Unit → Shared → Prop}
    (hQ : ∀ h' tk', I σ st' h' → Q () { s with heap := h', toks := tk' }) : wpAny (model prog w) A (setItem a' i' v') Q E s := by
  obtain ⟨r, rfl, e⟩ := onRef_some e
  obtain ⟨k, rfl, e⟩ := onInt_some e
  obtain ⟨n, rfl, e⟩ := onNat_some e
  obtain ⟨xs, hx, e⟩ := onList_some e
  obtain ⟨h1, e⟩ := onBool_some e
  obtain ⟨h2, e⟩ := onBool_some e
  cases e
  rw [nthR_eq] at hx
  rw [Nat.ble_eq] at h1 h2
  rw [lenR_eq] at h2
  obtain ⟨l, o, rfl, hl, h3, vs, m, rfl, hvs⟩ := (V.rh hI).read hx ha
  obtain ⟨t, rfl⟩ := hi
  have hsz : (List.toArray vs).size = xs.length := by simp [hvs.length]
  refine ki_setAt h3 (by omega) (by omega) (by rw [hsz]; omega) ?_
  have I₂ := inv_set V hI hl (ao' := .list (xs.set n v)) (o' := W.listOf (List.toArray (vs.set n v')) m) (h' := s.heap.update l (Obj.mapSeq fun x => x.setIfInBounds (Int.toNat (n : Int)) v')) (by
    rw [Heap.get?_update_self _ h3 rfl]
    simp [Obj.mapSeq]) (Heap.SameBut.update ..) ⟨_, m, rfl, hvs.set hv⟩
  have e9 : (⟨st.loc, st.cmp, setR st.heap (.list (setR xs v n)) r⟩ : AS) = { st with heap := st.heap.set r (.list (xs.set n v)) } := by rw [setR_eq, setR_eq]
  rw [e9] at hQ
  exact hQ _ _ I₂

noncomputable def aSetSub (fv fo fi : AS → Option (AV × AS)) : AS → Option (AF × AS) := seqA fv fun v => seqA fo fun a => seqA fi fun i => seqA (aPut a i v) fun _ => okA .next
theorem S_SetSub (V : IsInv κ I) {o i value : PySem.Expr} {pos' pos : Pos} {fv fo fi : AS → Option (AV × AS)} (hv : S (model prog w) A I VR (eval value env) fv) (ho : S (model prog w) A I VR (eval o env) fo) (hi : S (model prog w) A I VR (eval i env) fi)
    (hs : swapsWith value (some (.Subscript o i pos')) pos.line env = pure false := by rfl) : S (model prog w) A I FR (exec (.Assign [.Subscript o i pos'] value pos) env) (aSetSub fv fo fi) := by
  refine .mk fun σ st s b st' hI e Q hQ => ?_
  obtain ⟨v, st₁, e1, e⟩ := seqA_some e
  obtain ⟨a, st₂, e2, e⟩ := seqA_some e
  obtain ⟨j, st₃, e3, e⟩ := seqA_some e
  obtain ⟨u, st₄, e4, e⟩ := seqA_some e
  cases e
  refine wpAny_Assign_Subscript (hv.run σ st s v st₁ hI e1 _ fun τ₁ h₁ t₁ v' I₁ r₁ => ho.run _ _ _ _ _ I₁ e2 _ fun τ₂ h₂ t₂ a' I₂ r₂ => hi.run _ _ _ _ _ I₂ e3 _ fun τ₃ h₃ t₃ j' I₃ r₃ => put_list V I₃ (r₂.mono τ₃) r₃ ((r₁.mono τ₂).mono τ₃) e4 fun h₄ t₄ I₄ => ?_) hs
  rw [List.append_assoc, List.append_assoc] at I₄
  exact hQ _ _ _ _ I₄ rfl
noncomputable def aAugSub (fo fi fv : AS → Option (AV × AS)) (op : AV → AV → AS → Option (AV × AS)) : AS → Option (AF × AS) := seqA fo fun a => seqA fi fun i => seqA (aItem a i) fun old => seqA fv fun v => seqA (op old v) fun new => seqA (aPut a i new) fun _ => okA .next
theorem S_AugSub (V : IsInv κ I) {o i value : PySem.Expr} {tpos pos : Pos} {op : Operator} {fo fi fv : AS → Option (AV × AS)} {g : AV → AV → AS → Option (AV × AS)} (ho : S (model prog w) A I VR (eval o env) fo) (hi : S (model prog w) A I VR (eval i env) fi)
    (hv : S (model prog w) A I VR (eval value env) fv) (hop : Op2 (model prog w) A I VR (inplaceOp op) g)
    (hs : ∀ ov iv new, augStore i ov iv new = (do holding [new, ov, iv] (setItem ov iv new); release [new, ov, iv] []; pure .next) := by intro _ _ _; rfl) :
    S (model prog w) A I FR (exec (.AugAssign (.Subscript o i tpos) op value pos) env) (aAugSub fo fi fv g) := by
  refine .mk fun σ st s b st' hI e Q hQ => ?_
  obtain ⟨a, st₁, e1, e⟩ := seqA_some e
  obtain ⟨j, st₂, e2, e⟩ := seqA_some e
  obtain ⟨old, st₃, e3, e⟩ := seqA_some e
  obtain ⟨v, st₄, e4, e⟩ := seqA_some e
  obtain ⟨new, st₅, e5, e⟩ := seqA_some e
  obtain ⟨u, st₆, e6, e⟩ := seqA_some e
  cases e
  refine wpAny_AugAssign_SubscriptAny (ho.run σ st s a st₁ hI e1 _ fun τ₁ h₁ t₁ a' I₁ r₁ => hi.run _ _ _ _ _ I₁ e2 _ fun τ₂ h₂ t₂ j' I₂ r₂ => (get_item (s := { s with heap := h₂, toks := t₂ }) V I₂ (r₁.mono τ₂) r₂ e3 fun old' tk₃ r₃ est => ?_).1) hs
  subst est
  refine hv.run _ _ _ _ _ I₂ e4 _ fun τ₄ h₄ t₄ v' I₄ r₄ => hop _ _ _ _ _ _ _ _ _ I₄ (r₃.mono τ₄) r₄ e5 _ fun τ₅ h₅ t₅ n' I₅ r₅ => ?_
  refine put_list V I₅ (((r₁.mono τ₂).mono τ₄).mono τ₅) ((r₂.mono τ₄).mono τ₅) r₅ e6 fun h₆ t₆ I₆ => ?_
  rw [List.append_assoc, List.append_assoc, List.append_assoc] at I₆
  exact hQ _ _ _ _ I₆ rfl

/- built-ins on lists, ints, texts -/
noncomputable def intsOf (xs : List AV) : Option (List Int) := @List.rec AV (fun _ => Option (List Int)) (some []) (fun a _ ih => onInt a fun i => onSome ih fun r => some (i :: r)) xs
theorem ints_are {σ : List Addr} {xs : List AV} {vs : List Value} (h : VRs σ xs vs) : ∀ {ns : List Int}, intsOf xs = some ns → IntsAre vs ns := by
  induction h with
  | nil => intro ns e; cases e; exact .nil
  | @cons a v as us h1 h2 ih =>
    intro ns e
    obtain ⟨i, rfl, e⟩ := onInt_some (a := a) e
    obtain ⟨r, hr, e⟩ := onSome_some e
    cases e
    obtain ⟨t, rfl⟩ := h1
    exact .cons i t (ih hr)
noncomputable def arg1 {β : Type} (as : List AV) (k : AV → Option β) : Option β := @List.rec AV (fun _ => Option β) none (fun a r _ => @List.rec AV (fun _ => Option β) (k a) (fun _ _ _ => none) r) as
theorem arg1_some {β : Type} {as : List AV} {k : AV → Option β} {r : β} (e : arg1 as k = some r) : ∃ a, as = [a] ∧ k a = some r := by
  cases as with
  | nil => cases e
  | cons a as => cases as with
    | nil => exact ⟨a, rfl, e⟩
    | cons b as => cases e
noncomputable def arg2 {β : Type} (as : List AV) (k : AV → AV → Option β) : Option β := @List.rec AV (fun _ => Option β) none (fun a r _ => arg1 r (k a)) as
theorem arg2_some {β : Type} {as : List AV} {k : AV → AV → Option β} {r : β} (e : arg2 as k = some r) : ∃ a b, as = [a, b] ∧ k a b = some r := by
  cases as with
  | nil => cases e
  | cons a as =>
    obtain ⟨b, rfl, e⟩ := arg1_some (as := as) e
    exact ⟨a, b, rfl, e⟩
noncomputable def arg3 {β : Type} (as : List AV) (k : AV → AV → AV → Option β) : Option β := @List.rec AV (fun _ => Option β) none (fun a r _ => arg2 r (k a)) as
theorem arg3_some {β : Type} {as : List AV} {k : AV → AV → AV → Option β} {r : β} (e : arg3 as k = some r) : ∃ a b c, as = [a, b, c] ∧ k a b c = some r := by
  cases as with
  | nil => cases e
  | cons a as =>
    obtain ⟨b, c, rfl, e⟩ := arg2_some (as := as) e
    exact ⟨a, b, c, rfl, e⟩
theorem vrs1 {σ : List Addr} {a : AV} {vs : List Value} (h : VRs σ [a] vs) : ∃ v, vs = [v] ∧ VR σ a v := by
  cases h with
  | cons h t => cases t; exact ⟨_, rfl, h⟩
theorem vrs2 {σ : List Addr} {a b : AV} {vs : List Value} (h : VRs σ [a, b] vs) : ∃ v u, vs = [v, u] ∧ VR σ a v ∧ VR σ b u := by
  cases h with
  | cons h t => obtain ⟨u, rfl, h2⟩ := vrs1 t; exact ⟨_, u, rfl, h, h2⟩
theorem vrs3 {σ : List Addr} {a b c : AV} {vs : List Value} (h : VRs σ [a, b, c] vs) : ∃ v u x, vs = [v, u, x] ∧ VR σ a v ∧ VR σ b u ∧ VR σ c x := by
  cases h with
  | cons h t => obtain ⟨u, x, rfl, h2, h3⟩ := vrs2 t; exact ⟨_, u, x, rfl, h, h2, h3⟩

noncomputable def bAppend (as : List AV) (st : AS) : Option (AV × AS) := arg2 as fun a v => onRef a fun r => onList (nthR st.heap r) fun xs => onBool (Nat.ble (lenR xs) 1000) (some (.none, ⟨st.loc, st.cmp, setR st.heap (.list (appR xs [v])) r⟩))
theorem O_append (V : IsInv κ I) : OpN (model prog w) A I VR (fun vs => call (.builtin "list.append") vs) bAppend := by
  intro as as' σ st s b st' hI ha e Q hQ
  obtain ⟨a, v, rfl, e⟩ := arg2_some e
  obtain ⟨r, rfl, e⟩ := onRef_some e
  obtain ⟨xs, hx, e⟩ := onList_some e
  obtain ⟨hl, e⟩ := onBool_some e
  cases e
  rw [nthR_eq] at hx
  rw [Nat.ble_eq, lenR_eq] at hl
  obtain ⟨a', v', rfl, h1, h2⟩ := vrs2 ha
  obtain ⟨l, o, rfl, hs, h4, vs, n, rfl, hvs⟩ := (V.rh hI).read hx h1
  refine append_at h4 (fun h' hb ho => ?_) (by rw [List.size_toArray, hvs.length]; exact Nat.le_trans hl sizeLine_big)
  have I₂ := inv_set V hI hs (ao' := .list (xs ++ [v])) ho hb ⟨vs ++ [v'], n + 1, by simp, hvs.append (.cons h2 .nil)⟩
  have e9 : (⟨st.loc, st.cmp, setR st.heap (.list (appR xs [v])) r⟩ : AS) = { st with heap := st.heap.set r (.list (xs ++ [v])) } := by rw [setR_eq, appR_eq]
  rw [e9] at hQ
  exact hQ [] h' s.toks _ (app_nil_heap I₂) rfl
noncomputable def cntR (k : Int) (ns : List Int) : Nat := @List.rec Int (fun _ => Nat) 0 (fun a _ ih => @Bool.rec (fun _ => Nat) ih (Nat.add ih 1) (eqI a k)) ns
theorem cntR_eq (k : Int) (ns : List Int) : cntR k ns = ns.count k := by
  induction ns with
  | nil => rfl
  | cons a r ih =>
    show @Bool.rec (fun _ => Nat) (cntR k r) (Nat.add (cntR k r) 1) (eqI a k) = _
    rw [eqI_eq, List.count_cons, ih]
    cases (a == k) <;> rfl
noncomputable def bCount (as : List AV) (st : AS) : Option (AV × AS) := arg2 as fun a v => onRef a fun r => onInt v fun k => onList (nthR st.heap r) fun xs => onSome (intsOf xs) fun ns => some (.int (.ofNat (cntR k ns)), st)
theorem O_count (V : IsInv κ I) : OpN (model prog w) A I VR (fun vs => call (.builtin "list.count") vs) bCount := by
  intro as as' σ st s b st' hI ha e Q hQ
  obtain ⟨a, v, rfl, e⟩ := arg2_some e
  obtain ⟨r, rfl, e⟩ := onRef_some e
  obtain ⟨k, rfl, e⟩ := onInt_some e
  obtain ⟨xs, hx, e⟩ := onList_some e
  obtain ⟨ns, hn, e⟩ := onSome_some e
  cases e
  rw [nthR_eq] at hx
  obtain ⟨a', v', rfl, h1, h2⟩ := vrs2 ha
  obtain ⟨l, o, rfl, hs, h4, vs, n, rfl, hvs⟩ := (V.rh hI).read hx h1
  obtain ⟨t, rfl⟩ := h2
  exact count_list_ints (vs := vs) ⟨_, h4, rfl, _, rfl⟩ (ints_are hvs hn) (hQ [] s.heap _ _ (app_nil_heap hI) ⟨_, by rw [← cntR_eq]; rfl⟩)
noncomputable def bLen (as : List AV) (st : AS) : Option (AV × AS) := arg1 as fun a => @AV.rec (fun _ => Option (AV × AS)) none (fun _ => none) (fun _ => none)
  (fun x => onBool (Nat.ble (lenR x) 1000) (some (.int (.ofNat (lenR x)), st))) (fun r => onList (nthR st.heap r) fun xs => onBool (Nat.ble (lenR xs) 1000) (some (.int (.ofNat (lenR xs)), st))) a
theorem O_len (V : IsInv κ I) : OpN (model prog w) A I VR (fun vs => call (.builtin "len") vs) bLen := by
  intro as as' σ st s b st' hI ha e Q hQ
  obtain ⟨a, rfl, e⟩ := arg1_some e
  obtain ⟨a', rfl, h1⟩ := vrs1 ha
  cases a with
  | none => cases e
  | bool b => cases e
  | int b => cases e
  | str x =>
    obtain ⟨hl, e⟩ := onBool_some (b := Nat.ble (lenR x) 1000) e
    cases e
    rw [Nat.ble_eq, lenR_eq] at hl
    obtain ⟨t, rfl⟩ := h1
    have hsz : Str.length ⟨x.toArray⟩ = x.length := by simp [Str.length]
    exact P.len_str (by rw [hsz]; omega) (hQ [] s.heap _ _ (app_nil_heap hI) ⟨_, by rw [hsz, ← lenR_eq]; rfl⟩)
  | ref r =>
    obtain ⟨xs, hx, e⟩ := onList_some (o := nthR st.heap r) e
    obtain ⟨hl, e⟩ := onBool_some e
    cases e
    rw [nthR_eq] at hx
    rw [Nat.ble_eq, lenR_eq] at hl
    obtain ⟨l, o, rfl, hs, h4, vs, n, rfl, hvs⟩ := (V.rh hI).read hx h1
    have hsz : (List.toArray vs).size = xs.length := by simp [hvs.length]
    exact call_len_list (items := List.toArray vs) ⟨_, h4, rfl, _, rfl⟩ (by rw [hsz]; omega) (hQ [] s.heap _ _ (app_nil_heap hI) ⟨_, by rw [hsz, ← lenR_eq]; rfl⟩)
noncomputable def bMax (as : List AV) (st : AS) : Option (AV × AS) := arg2 as fun a b => onInt a fun x => onInt b fun y => some (.int (@Bool.rec (fun _ => Int) y x (leI y x)), st)
theorem O_max (V : IsInv κ I) (hh : A.handled = none) : OpN (model prog w) A I VR (fun vs => call (.builtin "max") vs) bMax := by
  intro as as' σ st s b st' hI ha e Q hQ
  obtain ⟨a, b, rfl, e⟩ := arg2_some e
  obtain ⟨x, y, rfl, rfl, e⟩ := two_ints e
  cases e
  obtain ⟨a', b', rfl, ⟨t, rfl⟩, ⟨u, rfl⟩⟩ := vrs2 ha
  refine max_two_ints hh fun h' tk g => hQ [] h' tk _ (app_nil_heap (inv_grow V hI g)) ?_
  rw [leI_eq]
  by_cases h : y > x
  · rw [if_pos h, decide_eq_false (by omega)]; exact ⟨_, rfl⟩
  · rw [if_neg h, decide_eq_true (by omega)]; exact ⟨_, rfl⟩
noncomputable def bPop (as : List AV) (st : AS) : Option (AV × AS) := arg2 as fun a i => onRef a fun r => onInt i fun k => onNat k fun n => onList (nthR st.heap r) fun xs => onBool (Nat.ble n 1000) (onBool (Nat.ble (lenR xs) 1000) (onSome (nthR xs n) fun x => some (x, ⟨st.loc, st.cmp, setR st.heap (.list (delR xs n)) r⟩)))
theorem VRs.eraseIdx {σ : List Addr} {as : List AV} {vs : List Value} (h : VRs σ as vs) : ∀ {i : Nat}, VRs σ (as.eraseIdx i) (vs.eraseIdx i) := by
  induction h with
  | nil => intro i; exact .nil
  | cons h t ih =>
    intro i
    cases i with
    | zero => exact t
    | succ i => exact .cons h ih
theorem O_pop (V : IsInv κ I) : OpN (model prog w) A I VR (fun vs => call (.builtin "list.pop") vs) bPop := by
  intro as as' σ st s b st' hI ha e Q hQ
  obtain ⟨a, i, rfl, e⟩ := arg2_some e
  obtain ⟨r, rfl, e⟩ := onRef_some e
  obtain ⟨k, rfl, e⟩ := onInt_some e
  obtain ⟨m, hkm, e⟩ := onNat_some e
  obtain ⟨xs, hx, e⟩ := onList_some e
  obtain ⟨hk1, e⟩ := onBool_some e
  obtain ⟨hk2, e⟩ := onBool_some e
  obtain ⟨x, hxk, e⟩ := onSome_some e
  cases e
  rw [nthR_eq] at hx hxk
  rw [Nat.ble_eq] at hk1 hk2
  rw [lenR_eq] at hk2
  obtain ⟨a', i', rfl, h1, ⟨t, rfl⟩⟩ := vrs2 ha
  obtain ⟨l, o, rfl, hs, h4, vs, n, rfl, hvs⟩ := (V.rh hI).read hx h1
  obtain ⟨v, hv1, hv2⟩ := hvs.get hxk
  have hsz : (List.toArray vs).size = xs.length := by simp [hvs.length]
  have hkl : m < xs.length := (List.getElem?_eq_some_iff.mp hxk).1
  have hv1' : (List.toArray vs)[m]? = some v := by simpa using hv1
  have hz : (List.toArray vs).size ≤ sizeLine := by rw [hsz]; exact Nat.le_trans hk2 sizeLine_big
  have hf1 : Builtin.List.listFitsIndex k = true := by unfold Builtin.List.listFitsIndex; simp; omega
  have hf2 : seqIndex? k (List.toArray vs).size = some m := by
    rw [hsz]
    unfold seqIndex?
    have : ¬ k < 0 := by omega
    simp [this]
    omega
  have hmeet := PySem.MeetsSeq.list_pop_at l (List.toArray vs) n k t m v hf1 hf2 hv1' hz
  refine call_meets PySem.F.slot_list_pop (T := "list") ⟨_, h4, rfl⟩ PySem.F.entry_list_pop (PySem.F.args_list_pop_2 _ _) hmeet ⟨h4, ?_⟩
  · have I₂ := inv_set V hI hs (ao' := .list (xs.eraseIdx m)) (o' := W.listOf (List.toArray (vs.eraseIdx m)) (n + 1)) (h' := s.heap.update l (Obj.mapSeq fun xs => xs.eraseIdxIfInBounds m)) (by
      have hkv : m < vs.length := by rw [hvs.length]; exact hkl
      have e1 : (List.toArray vs).eraseIdxIfInBounds m = List.toArray (vs.eraseIdx m) := by
        unfold Array.eraseIdxIfInBounds
        rw [dif_pos (by simpa using hkv)]
        simp
      rw [Heap.get?_update_self _ h4 (by simp only [Obj.mapSeq]; rfl)]
      simp only [Obj.mapSeq, e1]
      have e2 : ((List.toArray (vs.eraseIdx m)).size == (List.toArray vs).size) = false := by
        simp [List.length_eraseIdx, hkv]
        omega
      rw [e2]
      rfl) (Heap.SameBut.update ..) ⟨_, n + 1, rfl, hvs.eraseIdx⟩
    have e9 : (⟨st.loc, st.cmp, setR st.heap (.list (delR xs m)) r⟩ : AS) = { st with heap := st.heap.set r (.list (xs.eraseIdx m)) } := by rw [setR_eq, delR_eq]
    rw [e9] at hQ
    exact hQ [] _ s.toks _ (app_nil_heap I₂) (hv2.mono [])
end
end Mine
end
section
open PySem PySem.W PyProof.Rows PySem.Calls PySem.Spec
set_option maxRecDepth 100000
namespace Mine
/- methods of built-in types -/
noncomputable def isLst (v : AV) (st : AS) : Option Unit := onRef v fun a => onList (nthR st.heap a) fun _ => some ()
noncomputable def isTxt (v : AV) (_ : AS) : Option Unit := onStr v fun _ => some ()

noncomputable def aMeth (chk : AV → AS → Option Unit) (fo : AS → Option (AV × AS)) (fa : AS → Option (List AV × AS)) (g : List AV → AS → Option (AV × AS)) : AS → Option (AV × AS) :=
  seqA fo fun o st => onSome (chk o st) fun _ => seqA fa (fun as => g (o :: as)) st

def GetsB (M : Model) (A : Around) (I : List Addr → AS → Heap → Prop) (chk : AV → AS → Option Unit) (name : Str) (id : String) : Prop :=
  ∀ σ st s o o' pl (Q : Value × List Value → Shared → Prop) (E : Value → Shared → Prop), I σ st s.heap → VR σ o o' → chk o st = some () → Q (.builtin id, [o']) s → wpAny M A (getMethod o' name pl) Q E s

section
variable {prog : Program} {w : World} {A : Around} {κ : Kp} {I : List Addr → AS → Heap → Prop} {env : Env}
theorem gets_list (V : IsInv κ I) {name : Str} {id : String} (slot : Slot "list" name id) (hty : typeOf (.builtin id) = pure (.type "method_descriptor")) : GetsB (model prog w) A I isLst name id := by
  intro σ st s o o' pl Q E hI hv hc hQ
  obtain ⟨a, rfl, hc⟩ := onRef_some hc
  obtain ⟨xs, hx, hc⟩ := onList_some hc
  rw [nthR_eq] at hx
  obtain ⟨l, ob, rfl, hs, h4, vs, n, rfl, hvs⟩ := (V.rh hI).read hx hv
  exact getMethod_builtin (T := "list") ⟨_, h4, rfl⟩ PySem.F.plainAttrs_list slot hty (fun b e => by cases e; exact ⟨_, h4, rfl⟩) hQ
theorem gets_str {name : Str} {id : String} (slot : Slot "str" name id) (hty : typeOf (.builtin id) = pure (.type "method_descriptor")) : GetsB (model prog w) A I isTxt name id := by
  intro σ st s o o' pl Q E hI hv hc hQ
  obtain ⟨x, rfl, hc⟩ := onStr_some hc
  obtain ⟨t, rfl⟩ := hv
  exact getMethod_builtin (T := "str") (typeIs_str s _ t) PySem.F.plainAttrs_str slot hty (fun b e => nomatch e) hQ

theorem S_Meth1 {name : Str} {id : String} {chk : AV → AS → Option Unit} {o e0 : PySem.Expr} {rest : List PySem.Expr} {ap pos : Pos} {fo : AS → Option (AV × AS)} {fa : AS → Option (List AV × AS)} {g : List AV → AS → Option (AV × AS)} {pl : Sem Bool}
    (hg : GetsB (model prog w) A I chk name id) (ho : S (model prog w) A I VR (eval o env) fo) (ha : S (model prog w) A I VRs (spliced (backTo pos (starEach (e0 :: rest) env))) fa) (hop : OpN (model prog w) A I VR (fun vs => call (.builtin id) vs) g)
    (hs : starEach (e0 :: rest) env = (false, eval e0 env) :: starEach rest env := by rfl) (hm : ((backTo pos (starEach rest env)).any fun x => x.1) = false := by rfl)
    (hc : eval (.Call (.Attribute o name ap) (e0 :: rest) [] pos) env = (do
          let ov ← eval o env
          standAt ap.atName
          let x ← holding [ov] (getMethod ov name pl)
          match x with
          | (f, first) => callWith pos f first (backTo pos (starEach (e0 :: rest) env)) (backToKw pos (keywordEach [] env))) := by rfl) :
    S (model prog w) A I VR (eval (.Call (.Attribute o name ap) (e0 :: rest) [] pos) env) (aMeth chk fo fa g) := by
  refine .mk fun σ st s b st' hI e Q hQ => ?_
  obtain ⟨r, st₁, e1, e⟩ := seqA_some e
  obtain ⟨_, hck, e⟩ := onSome_some e
  · obtain ⟨as, st₂, e2, e⟩ := seqA_some e
    refine methodCall_KW (ho.run σ st s r st₁ hI e1 _ fun τ₁ h₁ t₁ r' I₁ r₁ => hg _ _ _ _ _ _ _ _ I₁ r₁ hck ?_) hc
    refine PyProof.Rows.callWith_method1 (ha.run _ _ _ _ _ I₁ e2 _ fun τ₂ h₂ t₂ as' I₂ r₂ => ?_) hs hm
    refine hop _ _ _ _ _ _ _ I₂ (.cons (r₁.mono τ₂) r₂) e _ fun τ₃ h₃ t₃ x I₃ r₃ => ?_
    rw [List.append_assoc, List.append_assoc] at I₃ r₃
    exact hQ _ _ _ _ I₃ r₃
theorem S_Meth0 {name : Str} {id : String} {chk : AV → AS → Option Unit} {o : PySem.Expr} {ap pos : Pos} {fo : AS → Option (AV × AS)} {g : List AV → AS → Option (AV × AS)} {pl : Sem Bool}
    (hg : GetsB (model prog w) A I chk name id) (ho : S (model prog w) A I VR (eval o env) fo) (hop : OpN (model prog w) A I VR (fun vs => call (.builtin id) vs) g)
    (hc : eval (.Call (.Attribute o name ap) [] [] pos) env = (do
          let ov ← eval o env
          standAt ap.atName
          let x ← holding [ov] (getMethod ov name pl)
          match x with
          | (f, first) => callWith pos f first (backTo pos (starEach [] env)) (backToKw pos (keywordEach [] env))) := by rfl) :
    S (model prog w) A I VR (eval (.Call (.Attribute o name ap) [] [] pos) env) (aMeth chk fo aNil g) := by
  refine .mk fun σ st s b st' hI e Q hQ => ?_
  obtain ⟨r, st₁, e1, e⟩ := seqA_some e
  obtain ⟨_, hck, e⟩ := onSome_some e
  · obtain ⟨as, st₂, e2, e⟩ := seqA_some e
    cases e2
    refine methodCall_KW (ho.run σ st s r st₁ hI e1 _ fun τ₁ h₁ t₁ r' I₁ r₁ => hg _ _ _ _ _ _ _ _ I₁ r₁ hck ?_) hc
    refine PyProof.Rows.callWith_method0 ?_
    refine hop _ _ _ _ _ _ _ I₁ (.cons r₁ .nil) e _ fun τ₃ h₃ t₃ x I₃ r₃ => ?_
    rw [List.append_assoc] at I₃ r₃
    exact hQ _ _ _ _ I₃ r₃
end

/- the text's own facts -/
structure Base (mg mb : Str → Option Value) (K : Frag) (κ : Kp) : Prop where
  g : NsAt κ mainGlobals mg
  b : NsAt κ builtinsNs mb
  lim : ∃ mc, NsAt κ cStatics mc ∧ mc "sys.recursionlimit" = none
  k : ∀ a o, K.lookup a = some o → κ a = some o
theorem NsAt.le {κ κ' : Kp} {a : Addr} {m : Str → Option Value} (h : NsAt κ a m) (le : leK κ κ') : NsAt κ' a m := let ⟨o, es, ep, e, r⟩ := h; ⟨o, es, ep, le _ _ e, r⟩
theorem Base.le {mg mb : Str → Option Value} {K : Frag} {κ κ' : Kp} (B : Base mg mb K κ) (le : leK κ κ') : Base mg mb K κ' where
  g := B.g.le le
  b := B.b.le le
  lim := let ⟨mc, h1, h2⟩ := B.lim; ⟨mc, h1.le le, h2⟩
  k := fun a o e => le _ _ (B.k a o e)

section
variable {prog : Program} {w : World} {A : Around} {κ : Kp} {I : List Addr → AS → Heap → Prop} {env : Env} {mg mb : Str → Option Value} {K : Frag}
theorem name_global (V : IsInv κ I) (B : Base mg mb K κ) {x : Str} {v : Value} (hv : mg x = some v) (hk : env.scope.kind = .function) (hx : env.kindOf x = some .globalImplicit) (hg : env.globals = mainGlobals) (hd : (x == ("__debug__" : Str)) = false := by decide) :
    NameIs (model prog w) A I env x v := by
  intro pos σ st s Q E hI hQ
  exact Name_function_global hk hx (loadGlobal_global (by rw [hg]; exact B.g.ns (V.rh hI).keep) hv hQ) hd
theorem name_builtin (V : IsInv κ I) (B : Base mg mb K κ) {x : Str} {v : Value} (hn : mg x = none) (hv : mb x = some v) (hk : env.scope.kind = .function) (hx : env.kindOf x = some .globalImplicit) (hg : env.globals = mainGlobals) (hb : env.builtins = builtinsNs) (hd : (x == ("__debug__" : Str)) = false := by decide) :
    NameIs (model prog w) A I env x v := by
  intro pos σ st s Q E hI hQ
  exact Name_function_global hk hx (loadGlobal_builtin (by rw [hg]; exact B.g.ns (V.rh hI).keep) hn (by rw [hb]; exact B.b.ns (V.rh hI).keep) hv hQ) hd
end

/- defs of the text -/
def SFun (M : Model) (B : Kp → Prop) (d u : Nat) (o : List Value → Sem Value) (F : List AV → List AO → Option (AV × List AO)) : Prop :=
  ∀ A κ as as' σ H s v H', A.handled = none → A.depth + d < recursionLimit → A.units + u < cLine → B κ → RH κ σ H s.heap → VRs σ as as' → F as H = some (v, H') → ∀ Q : Value → Shared → Prop,
    (∀ τ h' tk' v', RH κ (σ ++ τ) H' h' → (∀ b o, b ∉ σ → s.heap.get? b = some o → h'.get? b = some o) → (∀ a ∈ τ, s.heap.get? a = none) → VR (σ ++ τ) v v' → Q v' { s with heap := h', toks := tk' }) → wpAny M A (o as') Q NoE s

noncomputable def aCall (F : List AV → List AO → Option (AV × List AO)) : List AV → AS → Option (AV × AS) := fun as st => onSome (F as st.heap) fun p => @Prod.rec AV (List AO) (fun _ => Option (AV × AS)) (fun v H => some (v, ⟨st.loc, st.cmp, H⟩)) p

structure Rm (A : Around) (d u : Nat) : Prop where
  hh : A.handled = none
  dp : A.depth + d < recursionLimit
  un : A.units + u < cLine
theorem Rm.le {A : Around} {d u d' u' : Nat} (r : Rm A d u) (h1 : d' ≤ d) (h2 : u' ≤ u) : Rm A d' u' := ⟨r.hh, by have := r.dp; omega, by have := r.un; omega⟩

theorem O_fun {M : Model} {A : Around} {κ : Kp} {I : List Addr → AS → Heap → Prop} (V : IsInv κ I) {B : Kp → Prop} (hB : B κ) {d u : Nat} {o : List Value → Sem Value} {F : List AV → List AO → Option (AV × List AO)} (hf : SFun M B d u o F) (r : Rm A d u) :
    OpN M A I VR o (aCall F) := by
  intro as as' σ st s b st' hI ha e Q hQ
  obtain ⟨p, e1, e⟩ := onSome_some e
  obtain ⟨v, H⟩ := p
  cases e
  exact hf A κ as as' σ st.heap s _ H r.hh r.dp r.un hB (V.rh hI) ha e1 Q fun τ h' tk' v' R keep fr hv => hQ τ h' tk' v' (V.step hI R keep fr) hv

noncomputable def locR (n : Nat) (as : List AV) : List (Option AV) := @List.rec AV (fun _ => List (Option AV)) (@Nat.rec (fun _ => List (Option AV)) [] (fun _ ih => none :: ih) n) (fun a _ ih => some a :: ih) as
theorem locR_eq (n : Nat) (as : List AV) : locR n as = as.map some ++ List.replicate n none := by
  induction as with
  | nil =>
    show @Nat.rec (fun _ => List (Option AV)) [] (fun _ ih => none :: ih) n = _
    rw [List.map_nil, List.nil_append]
    induction n with
    | zero => rfl
    | succ n ih => rw [List.replicate_succ, ← ih]
  | cons a as ih => exact congrArg (some a :: ·) ih
noncomputable def bodyF (n : Nat) (f : AS → Option (AF × AS)) : List AV → List AO → Option (AV × List AO) := fun as H => onSome (f ⟨locR n as, [], H⟩) fun p => @Prod.rec AF AS (fun _ => Option (AV × List AO)) (fun fl st => @AF.rec (fun _ => Option (AV × List AO)) (some (.none, st.heap)) none none (fun v => some (v, st.heap)) fl) p

theorem lookup_zip {ps : List Str} (nd : ps.Nodup) : ∀ {vs : List Value} {i : Nat} {x : Str} {v : Value}, ps[i]? = some x → vs[i]? = some v → (ps.zip vs).reverse.lookup x = some v := by
  intro vs i x v h1 h2
  have hmem : (x, v) ∈ (ps.zip vs) := by
    have : (ps.zip vs)[i]? = some (x, v) := by
      rw [List.getElem?_zip_eq_some]
      exact ⟨h1, h2⟩
    exact List.mem_of_getElem? this
  have hkeys : ((ps.zip vs).map (·.1)).Nodup := by
    have : ((ps.zip vs).map (·.1)) = ps.take vs.length := by
      clear h1 h2 hmem nd
      induction ps generalizing vs with
      | nil => simp
      | cons p ps ih =>
        cases vs with
        | nil => simp
        | cons v vs => simp [ih]
    rw [this]
    exact nd.sublist (List.take_sublist _ _)
  have gen : ∀ (l : List (Str × Value)), (l.map (·.1)).Nodup → (x, v) ∈ l → l.lookup x = some v := by
    intro l
    induction l with
    | nil => intro _ h; cases h
    | cons p l ih =>
      intro nd hm
      obtain ⟨y, u⟩ := p
      rcases List.mem_cons.mp hm with e | hm
      · cases e
        simp [List.lookup_cons]
      · have hin : x ∈ l.map (·.1) := List.mem_map.mpr ⟨(x, v), hm, rfl⟩
        have hne : x ≠ y := by
          intro e
          rw [List.map_cons, List.nodup_cons] at nd
          exact nd.1 (e ▸ hin)
        rw [List.lookup_cons, beq_eq_false_iff_ne.mpr hne]
        rw [List.map_cons, List.nodup_cons] at nd
        exact ih nd.2 hm
  refine gen _ ?_ (List.mem_reverse.mpr hmem)
  rw [List.map_reverse]
  exact List.pairwise_reverse.mpr (hkeys.imp fun h => Ne.symm h)

/-- the environment of a def's call -/
abbrev envD (sc : Scope) (q : Str) (L a : Addr) (cd : Value) : Env := { scope := sc, locals := L, globals := mainGlobals, cells := [], qual := q, func := some a, code := cd, frame := some L, builtins := builtinsNs }
theorem envD_e0 {sc : Scope} {q : Str} {L a : Addr} {cd : Value} (hk : sc.kind = .function) : E0 (envD sc q L a cd) L := ⟨hk, rfl, rfl, rfl⟩

def BodyS (M : Model) (B : Kp → Prop) (d u : Nat) (sc : Scope) (names : List Str) (body : List Stmt) (f : AS → Option (AF × AS)) : Prop :=
  ∀ (A : Around) (κ : Kp) (L a : Addr) (q : Str) (cd : Value), B κ → Rm A d u → S M A (RF κ L names []) FR (execs body (envD sc q L a cd)) f

/-- the same, of the call itself -/
def SFunC (M : Model) (B : Kp → Prop) (d u : Nat) (a : Addr) (kw : List (Str × Value)) (F : List AV → List AO → Option (AV × List AO)) : Prop :=
  ∀ A κ as as' σ H s v H', A.handled = none → A.depth + d < recursionLimit → A.units + u < cLine → B κ → RH κ σ H s.heap → VRs σ as as' → F as H = some (v, H') → ∀ Q : Value → Shared → Prop,
    (∀ τ h' tk' v', RH κ (σ ++ τ) H' h' → (∀ b o, b ∉ σ → s.heap.get? b = some o → h'.get? b = some o) → (∀ a ∈ τ, s.heap.get? a = none) → VR (σ ++ τ) v v' → Q v' { s with heap := h', toks := tk' }) →
    codeAny M A (.call (.ref a) ⟨as', kw⟩) (fun r s' => match r with | .ok (.ret v) => Q v s' | .ok _ => False | .error e => NoE e s') s
theorem SFunC.fun {M : Model} {B : Kp → Prop} {d u : Nat} {a : Addr} {kw : List (Str × Value)} {F : List AV → List AO → Option (AV × List AO)} (h : SFunC M B d u a kw F) : SFun M B d u (fun vs => call (.ref a) vs kw) F :=
  fun A κ as as' σ H s v H' h1 h2 h3 h4 h5 h6 h7 Q hQ => wpAny_call (h A κ as as' σ H s v H' h1 h2 h3 h4 h5 h6 h7 Q hQ)
theorem fun_ofC {prog : Program} {w : World} {mg mb : Str → Option Value} {K : Frag} {d u n nl : Nat} {dflts : List AV} {a : Addr} {name qual : Str} {params : Arguments} {body : List Stmt} {scope : Scope} {dV kV doc pm cdv ct oc : Value} {an od : Option Addr} {osl : Array (Option Value)}
    {names ps : List Str} {f : AS → Option (AF × AS)} {kw : List (Str × Value)}
    (hb : BodyS (model prog w) (Base mg mb K) d u scope names body f)
    (ho : K.lookup a = some ⟨oc, od, .func (fnOf name qual params body scope dV kV doc pm an cdv ct), osl⟩) (hcd : codeIn K cdv qual = true)
    (hps : names.take ps.length = ps) (hnl : nl = names.length - ps.length) (hpl : ∀ as : List AV, as.length = n → ps.length = (as ++ dflts).length) (nd : names.Nodup)
    (hbind : ∀ (κ : Kp) (s : Shared) vs, Base mg mb K κ → (∀ b o, κ b = some o → s.heap.get? b = some o) → vs.length = n → ∃ ds, BindsTo s (fnOf name qual params body scope dV kV doc pm an cdv ct) ⟨vs, kw⟩ (ps.zip (vs ++ ds)) ∧ ∀ σ, VRs σ dflts ds)
    (hloc : ∀ x ∈ ps, scope.names.lookup x = some .local) (hcell : ∀ x ∈ scope.names, x.2 ≠ .cell)
    (hco : scope.isCoroutine = false) (hgen : scope.isGenerator = false) (hk : scope.kind = .function) :
    SFunC (model prog w) (Base mg mb K) (d + 1) (u + 3) a kw (fun as H => onBool (Nat.beq (lenR as) n) (bodyF nl f (appR as dflts) H)) := by
  intro A κ as as' σ H s v H' hh hd hu hB hR ha e Q hQ
  subst hnl
  obtain ⟨hlen, e⟩ := onBool_some e
  rw [appR_eq] at e
  have hlen : as.length = n := by rw [lenR_eq] at hlen; exact Nat.eq_of_beq_eq_true hlen
  obtain ⟨p, hf, e⟩ := onSome_some e
  obtain ⟨fl, st₁⟩ := p
  rw [locR_eq] at hf
  · skip
    -- what stands
    let κc : Kp := fun b => if b ∈ σ then none else s.heap.get? b
    have le : leK κ κc := fun b o q => by
      have : b ∉ σ := fun hm => by have := hR.off b hm; rw [q] at this; cases this
      show (if b ∈ σ then none else s.heap.get? b) = some o
      rw [if_neg this]; exact hR.keep b o q
    have hBc := hB.le le
    have Rc : RH κc σ H s.heap := ⟨fun b o q => by
        show _ = _
        have q' : (if b ∈ σ then none else s.heap.get? b) = some o := q
        split at q'
        · cases q'
        · exact q', fun b hm => by show (if b ∈ σ then none else s.heap.get? b) = none; rw [if_pos hm], hR.nd, hR.len, hR.objs⟩
    obtain ⟨ds, hbd, hds⟩ := hbind κc s as' hBc Rc.keep (by rw [ha.length]; exact hlen)
    have hlim : s.heap.NoLimit := let ⟨mc, h1, h2⟩ := hBc.lim; ⟨mc, h1.ns Rc.keep, h2⟩
    have hKin : K.In s.heap := fun b o q => Rc.keep _ _ (hBc.k b o q)
    refine codeAny_call_def (fd := fnOf name qual params body scope dV kV doc pm an cdv ct) (body := body) (by omega) (hKin _ _ ho) rfl hlim (codeRec_of hKin hcd) rfl hbd hcell
      (fun x hx => hloc x.1 (List.of_mem_zip hx).1) (fun h₀ hns hk₀ => ?_) hco hgen hk
    have hallr : VRs σ (as ++ dflts) (as' ++ ds) := ha.append (hds σ)
    have hsz : κc s.heap.objs.size = none := Rc.kp_none
    have hoff : s.heap.objs.size ∉ σ := fun hm => absurd (Rc.lt hm) (Nat.lt_irrefl _)
    have F₀ : RF κc s.heap.objs.size names [] σ ⟨(as ++ dflts).map some ++ List.replicate (names.length - ps.length) none, [], H⟩ h₀ := by
      refine ⟨Rc.grow hk₀, ⟨_, hns, ?_⟩, hsz, hoff, nd, fun p hp => by cases hp⟩
      intro i x u hi hu'
      by_cases hl : i < (as ++ dflts).length
      · rw [List.getElem?_append_left (by simpa using hl)] at hu'
        rw [List.getElem?_map] at hu'
        cases hx : (as ++ dflts)[i]? with
        | none => rw [hx] at hu'; cases hu'
        | some y =>
          rw [hx] at hu'
          cases hu'
          obtain ⟨v', h1, h2⟩ := hallr.get hx
          refine ⟨v', lookup_zip (hps ▸ nd.sublist (List.take_sublist _ _)) ?_ h1, h2⟩
          have hv1 : i < (as' ++ ds).length := (List.getElem?_eq_some_iff.mp h1).1
          have hil : i < ps.length := by rw [hallr.length] at hv1; rw [hpl as hlen]; exact hv1
          rw [← hps, List.getElem?_take_of_lt hil]
          exact hi
      · rw [List.getElem?_append_right (by simpa using hl), List.getElem?_replicate] at hu'
        split at hu' <;> cases hu'
    have rm : Rm (A.deeper (envD scope (qual ++ ".<locals>.") s.heap.objs.size a cdv)) d u := ⟨hh, by show A.depth + 1 + d < _; omega, by show A.units + 3 + u < _; omega⟩
    refine S.mono (hb _ κc s.heap.objs.size a (qual ++ ".<locals>.") cdv hBc rm) F₀ hf fun τ h' tk' x R₁ r₁ => ?_
    have keep : ∀ b o, b ∉ σ → s.heap.get? b = some o → h'.get? b = some o := fun b o hb' q => R₁.rh.keep b o (by show (if b ∈ σ then none else s.heap.get? b) = some o; rw [if_neg hb']; exact q)
    have fr : ∀ b ∈ τ, s.heap.get? b = none := fun b hb' => by
      have h1 : (if b ∈ σ then none else s.heap.get? b) = none := R₁.rh.off b (List.mem_append.mpr (.inr hb'))
      have h2 : b ∉ σ := fun h3 => (List.nodup_append.mp R₁.rh.nd).2.2 b h3 b hb' rfl
      rw [if_neg h2] at h1
      exact h1
    have off₂ : ∀ b ∈ σ ++ τ, κ b = none := fun b hb' => by
      cases q : κ b with
      | none => rfl
      | some o =>
        have h9 := R₁.rh.off b hb'
        rw [le b o q] at h9
        cases h9
    have R₂ : RH κ (σ ++ τ) st₁.heap h' := ⟨fun b o q => R₁.rh.keep b o (le b o q), off₂, R₁.rh.nd, R₁.rh.len, R₁.rh.objs⟩
    cases fl with
    | next => cases e; cases r₁; exact hQ τ h' tk' _ R₂ keep fr rfl
    | brk => cases e
    | cont => cases e
    | ret y => cases e; obtain ⟨v', rfl, hv⟩ := r₁; exact hQ τ h' tk' _ R₂ keep fr hv
section
variable {prog : Program} {w : World} {A : Around} {κ : Kp} {L : Addr} {names : List Str} {pins : List (Nat × Addr)} {env : Env}
theorem O_target {x : Str} {px : Pos} {i : Nat} (e0 : E0 env L) (hl : env.kindOf x = some .local) (hi : names[i]? = some x) :
    Op1 (model prog w) A (RF κ L names pins) UR (assign (.Name x px) env) (aSt i) := by
  intro a a' σ st s b st' hI ha e Q hQ
  exact wpAny_assign_Name (O_store e0 hl hi a a' σ st s b st' hI ha e Q hQ)
end
end Mine
end
section
open PySem PySem.W PyProof.Rows PySem.Calls PySem.Spec
set_option maxRecDepth 100000
namespace Mine
def testsT (ifs : List PySem.Expr) (env : Env) : Sem Bool := forIn ifs true fun c r => if r = true then do let ok ← isTrue c env (eval c env); pure (ForInStep.yield ok) else pure (ForInStep.yield r)

section
variable {prog : Program} {w : World} {A : Around} {R : Result → Shared → Prop} {s : Shared} {κ : Kp} {I : List Addr → AS → Heap → Prop}
theorem compLoop_gen {elt target iter : PySem.Expr} {ifs : List PySem.Expr} {scope : Scope} {pos : Pos} {it acc : Value} {env : Env} (I : Nat → Shared → Prop)
    (turn : ∀ n s, I n s → wpAny (model prog w) A (pyNext it) (fun r s₁ => match r with
      | none => R (.ok .next) s₁
      | some v => wpAny (model prog w) A (letOwnedTupleGo target it v) (fun _ s₁' => wpAny (model prog w) A (assign target env v) (fun _ s₂ =>
          wpAny (model prog w) A (testsT ifs env) (fun ok s₃ =>
            if ok = true then wpAny (model prog w) A (eval elt env) (fun x s₄ =>
              wpAny (model prog w) A (call (.builtin "list.append") [acc, x]) (fun _ s₅ => ∃ m, m < n ∧ I m s₅) (notedBy (model prog w) A env fun e s' => R (.error e) s') s₄) (notedBy (model prog w) A env fun e s' => R (.error e) s') s₃
            else ∃ m, m < n ∧ I m s₃) (notedBy (model prog w) A env fun e s' => R (.error e) s') s₂) (notedBy (model prog w) A env fun e s' => R (.error e) s') s₁') (notedBy (model prog w) A env fun e s' => R (.error e) s') s₁) (notedBy (model prog w) A env fun e s' => R (.error e) s') s)
    (n : Nat) (h : I n s) :
    codeAny (model prog w) A (.compLoop (.ListComp elt [⟨target, iter, ifs, 0⟩] scope pos) 0 it acc env) R s := by
  refine codeAny_loop rfl I (fun n s hI => ?_) n h
  show wpAny _ A ((compTurn (.ListComp elt [⟨target, iter, ifs, 0⟩] scope pos) 0 it acc env).onRaise (fun x => do noteFrame x env; theTreesLotGoes x)) _ _ s
  refine wpAny_noted ?_
  rw [compTurn_list]
  refine wpAny_bind (wpAny_standAt (wpAny_bind (wpAny_mono (turn n s hI) (fun r s₁ h₁ => ?_) fun _ _ h' => h')))
  cases r with
  | none => exact wpAny_pure h₁
  | some v =>
    refine wpAny_bind (wpAny_mono h₁ (fun _ s₁' h₁' => ?_) fun _ _ h' => h')
    refine wpAny_bind (wpAny_mono h₁' (fun _ s₂ h₂ => wpAny_bind (wpAny_mono h₂ (fun ok s₃ h₃ => ?_) fun _ _ h' => h')) fun _ _ h' => h')
    cases ok with
    | false => exact wpAny_pure ⟨rfl, h₃⟩
    | true =>
      exact wpAny_bind (wpAny_bind (wpAny_mono h₃ (fun x s₄ h₄ => wpAny_bind (wpAny_mono h₄ (fun _ s₅ h₅ => wpAny_pure (wpAny_pure ⟨rfl, h₅⟩)) fun _ _ h' => h')) fun _ _ h' => h'))

theorem S_tests_nil {env : Env} : S (model prog w) A I BR (testsT [] env) (okA true) := by
  refine .mk fun σ st s b st' hI e Q hQ => ?_
  cases e
  exact wpAny_tests_nil (hQ [] s.heap s.toks _ (app_nil_heap hI) rfl)
theorem S_tests_one {env : Env} {c : PySem.Expr} {f : AS → Option (Bool × AS)} (h : S (model prog w) A I BR (isTrue c env (eval c env)) f) : S (model prog w) A I BR (testsT [c] env) f := by
  refine .mk fun σ st s b st' hI e Q hQ => ?_
  exact wpAny_tests_one (h.run σ st s b st' hI e Q hQ)

theorem IterAt.self {E : Value → Shared → Prop} {σ : List Addr} {J : Addr} {src : Src} (i : IterAt σ J src s.heap) {Q : Value → Shared → Prop} (h : Q (.ref J) s) : wpAny (model prog w) A (pyIter (.ref J)) Q E s := by
  cases src with
  | rng k c => exact wpAny_pyIter_rangeiter i h
  | lst a j => obtain ⟨l, _, q⟩ := i; exact wpAny_pyIter_listiter q h
end

/- comprehensions -/
noncomputable def loopC (g : AV → AS → Option (Unit × AS)) (ft : AS → Option (Bool × AS)) (fe : AS → Option (AV × AS)) (d : Nat) (n : Nat) : Src → AS → Option (List AO) :=
  @Nat.rec (fun _ => Src → AS → Option (List AO)) (fun _ _ => none)
    (fun _ ih src st => onSome (nextS src st.heap) fun r => @Option.rec (AV × Src) (fun _ => Option (List AO)) (some st.heap)
      (fun p => onSome (g p.1 st) fun q1 => onSome (ft q1.2) fun q2 => @Bool.rec (fun _ => Option (List AO)) (ih p.2 q2.2) (onSome (fe q2.2) fun q3 => onSome (bAppend [.ref d, q3.1] q3.2) fun q4 => ih p.2 q4.2) q2.1) r) n
theorem loopC_succ (g ft fe d n src st) : loopC g ft fe d (n + 1) src st = onSome (nextS src st.heap) fun r => @Option.rec (AV × Src) (fun _ => Option (List AO)) (some st.heap)
      (fun p => onSome (g p.1 st) fun q1 => onSome (ft q1.2) fun q2 => @Bool.rec (fun _ => Option (List AO)) (loopC g ft fe d n p.2 q2.2) (onSome (fe q2.2) fun q3 => onSome (bAppend [.ref d, q3.1] q3.2) fun q4 => loopC g ft fe d n p.2 q4.2) q2.1) r := rfl
noncomputable def aComp (k : Nat) (fs : AS → Option (Src × AS)) (g : AV → AS → Option (Unit × AS)) (ft : AS → Option (Bool × AS)) (fe : AS → Option (AV × AS)) : AS → Option (AV × AS) :=
  seqA fs fun src st => onSome (loopC g ft fe (lenR st.heap) 40 src ⟨locR k [], [], appR st.heap [.list []]⟩) fun H => some (.ref (lenR st.heap), ⟨st.loc, st.cmp, H⟩)

section
variable {prog : Program} {w : World} {A : Around} {κ : Kp} {L : Addr} {names cn : List Str} {pins : List (Nat × Addr)} {env : Env}

theorem compSrc {elt target iter : PySem.Expr} {ifs : List PySem.Expr} {scope : Scope} {pos : Pos} {cenv : Env} {C D J : Addr} {g : AV → AS → Option (Unit × AS)} {ft : AS → Option (Bool × AS)} {fe : AS → Option (AV × AS)} (hh : A.handled = none)
    (hg : ∀ κ', leK κ κ' → Op1 (model prog w) A (RF κ' C cn pins) UR (assign target cenv) g)
    (ht : ∀ κ', leK κ κ' → S (model prog w) A (RF κ' C cn pins) BR (testsT ifs cenv) ft)
    (he : ∀ κ', leK κ κ' → S (model prog w) A (RF κ' C cn pins) VR (eval elt cenv) fe)
    (hgo : ∀ σ J src x v s (Q : Unit → Shared → Prop) (E : Value → Shared → Prop), IterAt σ J src s.heap → VR σ x v → (∃ st r, g x st = some r) → Q () s → wpAny (model prog w) A (letOwnedTupleGo target (.ref J) v) Q E s)
    {σ : List Addr} {s : Shared} {d cnt : Nat} {src : Src} {st : AS} {H : List AO} (hI : RF κ C cn pins σ st s.heap) (hJ : J ∉ σ) (kJ : κ J = none) (hL : J ≠ C) (hit : IterAt σ J src s.heap) (hD : σ[d]? = some D)
    (e : loopC g ft fe d cnt src st = some H) {R : Result → Shared → Prop}
    (hQ : ∀ τ h' tk' st', RF κ C cn pins (σ ++ τ) st' h' → st'.heap = H → R (.ok .next) { s with heap := h', toks := tk' }) :
    codeAny (model prog w) A (.compLoop (.ListComp elt [⟨target, iter, ifs, 0⟩] scope pos) 0 (.ref J) (.ref D) cenv) R s := by
  refine compLoop_gen (fun n s₁ => ∃ τ st₁ src₁ h₁ tk₁, s₁ = { s with heap := h₁, toks := tk₁ } ∧ RF κ C cn pins (σ ++ τ) st₁ h₁ ∧ J ∉ σ ++ τ ∧ IterAt (σ ++ τ) J src₁ h₁ ∧ loopC g ft fe d n src₁ st₁ = some H) ?_ cnt
    ⟨[], st, src, s.heap, s.toks, rfl, by rw [List.append_nil]; exact hI, by rw [List.append_nil]; exact hJ, by rw [List.append_nil]; exact hit, e⟩
  rintro n s₁ ⟨τ, st₁, src₁, h₁, tk₁, rfl, R₁, J₁, it₁, e₁⟩
  cases n with
  | zero => cases e₁
  | succ n =>
    rw [loopC_succ] at e₁
    obtain ⟨r, hn, e₁⟩ := onSome_some e₁
    cases r with
    | none =>
      cases e₁
      refine next_none hh R₁.rh it₁ hn fun h' he => ?_
      exact hQ _ _ _ _ (R₁.turn J₁ kJ hL he) rfl
    | some p =>
      obtain ⟨x, src₂⟩ := p
      obtain ⟨⟨u, st₂⟩, hg1, e₁⟩ := onSome_some e₁
      obtain ⟨⟨b, st₃⟩, ht1, e₁⟩ := onSome_some e₁
      refine next_some R₁.rh it₁ hn fun h' t' v hs it' hv => ?_
      have R₂ := R₁.turn J₁ kJ hL hs.extBut
      obtain ⟨oJ, eJ, _⟩ := it'.obj
      have R₃ := R₂.addK J₁ hL eJ
      have le := leK.withK (o := oJ) kJ
      refine hgo _ J src₂ x v _ _ _ it' hv ⟨_, _, hg1⟩ ?_
      refine wpAny_mono ((hg _ le) x _ _ _ _ _ _ R₃ hv hg1 (fun _ s₂ => wpAny _ A _ _ _ s₂) fun τ₂ h₂ t₂ _ R₄ _ => ?_) (fun _ _ x => x) fun _ _ x => x.elim
      refine (ht _ le).mono R₄ ht1 fun τ₃ h₃ t₃ ok R₅ r₅ => ?_
      cases r₅
      cases b with
      | false =>
        rw [if_neg Bool.false_ne_true]
        have J₅ := R₅.J_off
        have it₅ : IterAt (σ ++ τ ++ (τ₂ ++ τ₃)) J src₂ h₃ := it'.rel eJ (R₅.rh.keep J _ (withK_self ..))
        have R₆ := R₅.dropK kJ
        rw [List.append_assoc, List.append_assoc] at R₆ J₅
        rw [List.append_assoc] at it₅
        exact ⟨n, Nat.lt_succ_self _, _, st₃, src₂, h₃, t₃, rfl, R₆, J₅, it₅, e₁⟩
      | true =>
        rw [if_pos rfl]
        obtain ⟨⟨y, st₄⟩, he1, e₁⟩ := onSome_some e₁
        obtain ⟨⟨z, st₅⟩, ha1, e₁⟩ := onSome_some e₁
        refine (he _ le).mono R₅ he1 fun τ₄ h₄ t₄ y' R₆ r₆ => ?_
        have hDv : VR (σ ++ τ ++ τ₂ ++ τ₃ ++ τ₄) (.ref d) (.ref D) := ⟨D, get_app (get_app (get_app (get_app hD _) _) _) _, rfl⟩
        refine wpAny_mono ((O_append RF.inv) _ _ _ _ _ _ _ R₆ (.cons hDv (.cons r₆ .nil)) ha1 (fun _ s₅ => ∃ m, m < n + 1 ∧ _) fun τ₅ h₅ t₅ _ R₇ _ => ?_) (fun _ _ x => x) fun _ _ x => x.elim
        have J₇ := R₇.J_off
        have it₇ : IterAt (σ ++ τ ++ (τ₂ ++ τ₃ ++ τ₄ ++ τ₅)) J src₂ h₅ := it'.rel eJ (R₇.rh.keep J _ (withK_self ..))
        have R₈ := R₇.dropK kJ
        have eq : σ ++ τ ++ τ₂ ++ τ₃ ++ τ₄ ++ τ₅ = σ ++ (τ ++ (τ₂ ++ τ₃ ++ τ₄ ++ τ₅)) := by simp [List.append_assoc]
        rw [eq] at R₈ J₇
        rw [List.append_assoc] at it₇
        exact ⟨n, Nat.lt_succ_self _, _, st₅, src₂, h₅, t₅, rfl, R₈, J₇, it₇, e₁⟩

/-- the frame goes under cover while a comprehension runs -/
theorem RF.under {σ : List Addr} {st : AS} {h : Heap} (R : RF κ L names pins σ st h) : ∃ oL m, h.get? L = some oL ∧ (∀ h' : Heap, h'.get? L = some oL → h'.Ns L m) ∧ NameRel σ names st.loc m := by
  obtain ⟨m, ⟨o, es, ep, ho, r⟩, hm⟩ := R.ns
  exact ⟨o, m, ho, fun h' e => ⟨o, es, ep, e, r⟩, hm⟩

theorem comp_block {elt target iter : PySem.Expr} {ifs : List PySem.Expr} {scope : Scope} {cl : List (Str × Addr)} {pos : Pos} {g : AV → AS → Option (Unit × AS)} {ft : AS → Option (Bool × AS)} {fe : AS → Option (AV × AS)} {k : Nat} (hh : A.handled = none)
    (hk : cn.length = k) (hcell : ∀ y ∈ scope.names, y.2 ≠ .cell) (hkind : scope.kind = .function) (ndc : cn.Nodup)
    (hg : ∀ κ' C, leK κ κ' → Op1 (model prog w) A (RF κ' C cn pins) UR (assign target (compEnvC scope cl C env)) g)
    (ht : ∀ κ' C, leK κ κ' → S (model prog w) A (RF κ' C cn pins) BR (testsT ifs (compEnvC scope cl C env)) ft)
    (he : ∀ κ' C, leK κ κ' → S (model prog w) A (RF κ' C cn pins) VR (eval elt (compEnvC scope cl C env)) fe)
    (hgo : ∀ σ J src x v s (Q : Unit → Shared → Prop) (E : Value → Shared → Prop), IterAt σ J src s.heap → VR σ x v → (∃ st r, g x st = some r) → Q () s → wpAny (model prog w) A (letOwnedTupleGo target (.ref J) v) Q E s)
    {σ : List Addr} {s : Shared} {J : Addr} {src : Src} {st : AS} {H : List AO} (hI : RF κ L names pins σ st s.heap) (hJ : J ∉ σ) (kJ : κ J = none) (hL : J ≠ L) (hJs : J < s.heap.objs.size) (hit : IterAt σ J src s.heap)
    (e : loopC g ft fe st.heap.length 40 src ⟨locR k [], [], st.heap ++ [.list []]⟩ = some H) {RR : Value → Addr → Result → Shared → Prop} {E : Value → Shared → Prop}
    (hQ : ∀ D C oC m τ h' tk', RF (withK κ C oC) L names pins (σ ++ τ) ⟨st.loc, st.cmp, H⟩ h' → (∀ h'' : Heap, h''.get? C = some oC → h''.Ns C m) → κ C = none → C ≠ L → VR (σ ++ τ) (.ref st.heap.length) (.ref D) → RR (.ref D) C (.ok .next) { s with heap := h', toks := tk' }) :
    wpAny (model prog w) A (newList []) (fun acc s₃ => wpAny (model prog w) A (newFunctionEnv scope env.globals cl [] env.qual none .none (some env)) (fun cenv s₄ =>
      codeAny (model prog w) A (.compStart (.ListComp elt [⟨target, iter, ifs, 0⟩] scope pos) 0 (.ref J) acc { cenv with scope := relabel scope env }) (RR acc cenv.locals) s₄) E s₃) E s := by
  refine wpAny_newObj_type (wpAny_newFunctionEnv hcell (by intro y hy; simp at hy) (fun h₁ hns₁ hsb₁ => ?_) hkind)
  dsimp only at hns₁ hsb₁ ⊢
  have I₀ := inv_alloc RF.inv hI (ao := .list []) (o := listOf (List.toArray []) 0) ⟨[], 0, rfl, .nil⟩ rfl
  obtain ⟨oL, m, eL, nsL, hm⟩ := I₀.under
  generalize hH2 : s.heap.push { cls := .type "list", dict := none, data := .seq ([] : List Value).toArray } = H2 at hns₁ hsb₁ ⊢
  have hH2' : s.heap.push (listOf (List.toArray []) 0) = H2 := hH2
  rw [hH2'] at I₀ eL
  have old : ∀ b o, H2.get? b = some o → h₁.get? b = some o := fun b o e => by
    have hb := Heap.lt_size e
    exact hsb₁.extBut b o (by intro q; rw [q] at hb; exact Nat.lt_irrefl _ hb) (Heap.get?_push_of_some _ e)
  have I₁ := I₀.grow old
  have f := I₀.fresh
  have hLC : L ≠ H2.objs.size := Ne.symm f.2.2
  have RC : RF (withK κ L oL) H2.objs.size cn pins (σ ++ [s.heap.objs.size]) ⟨locR k [], [], st.heap ++ [.list []]⟩ h₁ := by
    refine ⟨I₁.rh.addK I₁.oL (old _ _ eL), ⟨_, hns₁, ?_⟩, ?_, f.1, ndc, I₁.pin⟩
    · intro i x u hi hu
      rw [locR_eq] at hu
      simp [List.getElem?_replicate] at hu
    · unfold withK
      rw [if_neg (Ne.symm hLC)]; exact f.2.1
  have kL : κ L = none := hI.kL
  have le : leK κ (withK κ L oL) := leK.withK kL
  have hD : (σ ++ [s.heap.objs.size])[st.heap.length]? = some s.heap.objs.size := by rw [hI.rh.len]; simp
  have sz2 : H2.objs.size = s.heap.objs.size + 1 := by rw [← hH2, Heap.size_push]
  have hJ' : J ∉ σ ++ [s.heap.objs.size] := fun hm' => by
    rcases List.mem_append.mp hm' with h1 | h1
    · exact hJ h1
    · rw [List.mem_singleton.mp h1] at hJs; exact Nat.lt_irrefl _ hJs
  have hJC : J ≠ H2.objs.size := by intro q; rw [q, sz2] at hJs; exact absurd hJs (Nat.not_lt.mpr (Nat.le_succ _))
  have kJ' : withK κ L oL J = none := by unfold withK; rw [if_neg hL]; exact kJ
  obtain ⟨oJ, eJ, itJ⟩ := hit.obj
  have eJ1 : h₁.get? J = some oJ := old _ _ (by rw [← hH2]; exact Heap.get?_push_of_some _ eJ)
  have it₁ : IterAt (σ ++ [s.heap.objs.size]) J src h₁ := (itJ h₁ eJ1).mono _
  have loop : codeAny (model prog w) A (.compLoop (.ListComp elt [⟨target, iter, ifs, 0⟩] scope pos) 0 (.ref J) (.ref s.heap.objs.size) (compEnvC scope cl H2.objs.size env)) (RR (.ref s.heap.objs.size) H2.objs.size)
      { s with heap := h₁, toks := s.toks + ([] : List (Str × Value)).length } := by
    refine compSrc (κ := withK κ L oL) hh (fun κ' l => hg κ' _ fun b o q => l b o (le b o q)) (fun κ' l => ht κ' _ fun b o q => l b o (le b o q)) (fun κ' l => he κ' _ fun b o q => l b o (le b o q)) hgo (s := { s with heap := h₁, toks := s.toks + ([] : List (Str × Value)).length }) RC hJ' kJ' hJC it₁ hD e fun τ h' tk' st' R₂ hst => ?_
    obtain ⟨oC, mC, eC, nsC, _⟩ := R₂.under
    have eL' : h'.get? L = some oL := R₂.rh.keep _ _ (withK_self ..)
    have hLo : L ∉ σ ++ [s.heap.objs.size] ++ τ := fun hm' => by have := R₂.rh.off L hm'; rw [withK_self] at this; cases this
    have R₃ : RF κ L names pins (σ ++ ([s.heap.objs.size] ++ τ)) ⟨st.loc, st.cmp, H⟩ h' := by
      rw [← List.append_assoc]
      refine ⟨?_, ⟨m, nsL h' eL', hm.mono τ⟩, kL, hLo, I₁.nd, R₂.pin⟩
      have := R₂.rh
      rw [hst] at this
      exact {
        keep := fun b o' q => this.keep b o' (le b o' q)
        off := fun a ha => by
          have h9 := this.off a ha
          cases q : κ a with
          | none => rfl
          | some o => rw [le a o q] at h9; cases h9
        nd := this.nd
        len := this.len
        objs := this.objs }
    have hCo : H2.objs.size ∉ σ ++ ([s.heap.objs.size] ++ τ) := by rw [← List.append_assoc]; exact R₂.oL
    have R₄ := R₃.addK hCo (Ne.symm hLC) eC
    refine hQ _ _ oC mC _ h' tk' R₄ nsC f.2.1 (Ne.symm hLC) ⟨_, ?_, rfl⟩
    rw [← List.append_assoc]
    exact get_app hD τ
  exact codeAny_compStart_list loop (it₁.self loop)

theorem aComp_some {k : Nat} {fs : AS → Option (Src × AS)} {g : AV → AS → Option (Unit × AS)} {ft : AS → Option (Bool × AS)} {fe : AS → Option (AV × AS)} {st st' : AS} {b : AV} (e : aComp k fs g ft fe st = some (b, st')) :
    ∃ src st₁ H, fs st = some (src, st₁) ∧ loopC g ft fe st₁.heap.length 40 src ⟨locR k [], [], st₁.heap ++ [.list []]⟩ = some H ∧ b = .ref st₁.heap.length ∧ st' = ⟨st₁.loc, st₁.cmp, H⟩ := by
  obtain ⟨src, st₁, e1, e⟩ := seqA_some e
  obtain ⟨H, e2, e⟩ := onSome_some e
  cases e
  rw [lenR_eq, appR_eq] at e2
  exact ⟨src, st₁, H, e1, e2, by rw [lenR_eq], rfl⟩

theorem S_ListComp {elt target iter : PySem.Expr} {ifs : List PySem.Expr} {scope : Scope} (cl : List (Str × Addr)) {pos : Pos} {fs : AS → Option (Src × AS)} {g : AV → AS → Option (Unit × AS)} {ft : AS → Option (Bool × AS)} {fe : AS → Option (AV × AS)} {k : Nat} (cn : List Str) (hh : A.handled = none)
    (hs : SrcS (model prog w) A κ L (RF κ L names pins) (eval iter env) fs)
    (hg : ∀ κ' C, leK κ κ' → Op1 (model prog w) A (RF κ' C cn pins) UR (assign target (compEnvC scope cl C env)) g)
    (ht : ∀ κ' C, leK κ κ' → S (model prog w) A (RF κ' C cn pins) BR (testsT ifs (compEnvC scope cl C env)) ft)
    (he : ∀ κ' C, leK κ κ' → S (model prog w) A (RF κ' C cn pins) VR (eval elt (compEnvC scope cl C env)) fe)
    (hgo : ∀ σ J src x v s (Q : Unit → Shared → Prop) (E : Value → Shared → Prop), IterAt σ J src s.heap → VR σ x v → (∃ st r, g x st = some r) → Q () s → wpAny (model prog w) A (letOwnedTupleGo target (.ref J) v) Q E s)
    (hclos : closureFor scope env = pure cl) (hcell : ∀ y ∈ scope.names, y.2 ≠ .cell) (hkind : scope.kind = .function)
    (hnames : ∀ x ∈ scope.names, x.2 = .local → scope.names.lookup x.1 = some .local) (ndc : cn.Nodup) (hk : cn.length = k)
    (hf : ∀ x, foldedSetIterable iter env x = pure x := by intro _; rfl) :
    S (model prog w) A (RF κ L names pins) VR (eval (.ListComp elt [⟨target, iter, ifs, 0⟩] scope pos) env) (aComp k fs g ft fe) := by
  refine .mk fun σ st s b st' hI e Q hQ => ?_
  obtain ⟨src, st₁, H, e1, e2, rfl, rfl⟩ := aComp_some e
  rw [eval_ListComp]
  refine wpAny_comprehension_free rfl hf hclos hkind hnames (hs.run σ st s src st₁ hI e1 _ fun τ h₁ t₁ J R₁ J₁ kJ hL hJs it => ?_)
  refine comp_block (s := { s with heap := h₁, toks := t₁ }) (RR := fun acc C => compPost (model prog w) A NoE none Q acc C) hh hk hcell hkind ndc hg ht he hgo R₁ J₁ kJ hL hJs it e2 ?_
  intro D C oC m τ₂ h' tk' R₂ nsC kC hCL hv
  have eC := R₂.rh.keep C _ (withK_self ..)
  have hCo := R₂.J_off
  have R₃ := R₂.dropK kC
  refine ⟨m, nsC h' eC, fun h'' hs'' => ?_⟩
  have R₄ := R₃.turn hCo kC hCL hs''.extBut
  rw [List.append_assoc] at R₄ hv
  exact hQ _ h'' tk' _ R₄ hv
theorem S_AssignComp {x : Str} {px spos : Pos} {elt target iter : PySem.Expr} {ifs : List PySem.Expr} {scope : Scope} (cl : List (Str × Addr)) {pos : Pos} {fs : AS → Option (Src × AS)} {g : AV → AS → Option (Unit × AS)} {ft : AS → Option (Bool × AS)} {fe : AS → Option (AV × AS)} {ga : AV → AS → Option (Unit × AS)} {k : Nat} (cn : List Str) (hh : A.handled = none)
    (hs : SrcS (model prog w) A κ L (RF κ L names pins) (eval iter env) fs)
    (hg : ∀ κ' C, leK κ κ' → Op1 (model prog w) A (RF κ' C cn pins) UR (assign target (compEnvC scope cl C env)) g)
    (ht : ∀ κ' C, leK κ κ' → S (model prog w) A (RF κ' C cn pins) BR (testsT ifs (compEnvC scope cl C env)) ft)
    (he : ∀ κ' C, leK κ κ' → S (model prog w) A (RF κ' C cn pins) VR (eval elt (compEnvC scope cl C env)) fe)
    (ha : ∀ κ', leK κ κ' → Op1 (model prog w) A (RF κ' L names pins) UR (storeName env x) ga)
    (hgo : ∀ σ J src x v s (Q : Unit → Shared → Prop) (E : Value → Shared → Prop), IterAt σ J src s.heap → VR σ x v → (∃ st r, g x st = some r) → Q () s → wpAny (model prog w) A (letOwnedTupleGo target (.ref J) v) Q E s)
    (hclos : closureFor scope env = pure cl) (hcell : ∀ y ∈ scope.names, y.2 ≠ .cell) (hkind : scope.kind = .function)
    (hnames : ∀ x ∈ scope.names, x.2 = .local → scope.names.lookup x.1 = some .local) (ndc : cn.Nodup) (hk : cn.length = k)
    (hsw : swapsWith (.ListComp elt [⟨target, iter, ifs, 0⟩] scope pos) (some (.Name x px)) spos.line env = pure true)
    (hf : ∀ x, foldedSetIterable iter env x = pure x := by intro _; rfl) :
    S (model prog w) A (RF κ L names pins) FR (exec (.Assign [.Name x px] (.ListComp elt [⟨target, iter, ifs, 0⟩] scope pos) spos) env) (aAssign (aComp k fs g ft fe) ga) := by
  refine .mk fun σ st s b st' hI e Q hQ => ?_
  obtain ⟨v, st₀, e0, e⟩ := seqA_some e
  obtain ⟨u, st₂, e3, e⟩ := seqA_some e
  cases e
  obtain ⟨src, st₁, H, e1, e2, rfl, rfl⟩ := aComp_some e0
  rw [exec_Assign_Name_used _ _ _ _ hsw]
  refine wpAny_bind (wpAny_standAt (wpAny_bind ?_))
  show wpAny _ A (do let _ ← comprehension (.ListComp elt [⟨target, iter, ifs, 0⟩] scope pos) scope env _ (newList []) false (eval iter env) (some (assign (.Name x px) env))) _ _ s
  refine wpAny_bind (wpAny_mono (wpAny_comprehension_free (use := some (assign (.Name x px) env)) (Q := fun _ s' => Q .next s') rfl hf hclos hkind hnames
    (hs.run σ st s src st₁ hI e1 _ fun τ h₁ t₁ J R₁ J₁ kJ hL hJs it => ?_)) (fun _ s' hq => wpAny_pure (wpAny_pure hq)) fun _ _ e => e)
  refine comp_block (s := { s with heap := h₁, toks := t₁ }) (RR := fun acc C => compPost (model prog w) A NoE (some (assign (.Name x px) env)) (fun _ s' => Q .next s') acc C) hh hk hcell hkind ndc hg ht he hgo R₁ J₁ kJ hL hJs it e2 ?_
  intro D C oC m τ₂ h' tk' R₂ nsC kC hCL hv
  show wpAny _ A (assign (.Name x px) env (.ref D)) _ _ _
  refine wpAny_assign_Name ((ha _ (leK.withK kC)) _ _ _ _ _ _ _ R₂ hv e3 _ fun τ₃ h₃ t₃ _ R₅ _ => ?_)
  have eC := R₅.rh.keep C _ (withK_self ..)
  have hCo := R₅.J_off
  have R₃ := R₅.dropK kC
  refine ⟨m, nsC _ eC, fun h'' hs'' => ?_⟩
  have R₄ := R₃.turn hCo kC hCL hs''.extBut
  rw [List.append_assoc, List.append_assoc] at R₄
  exact hQ _ h'' t₃ _ R₄ rfl
theorem compE0 {scope : Scope} {cl : List (Str × Addr)} {C : Addr} (e0 : E0 env L) (hk : scope.kind = .function) : E0 (compEnvC scope cl C env) C := ⟨hk, rfl, e0.glo, e0.blt⟩

/-- a cell that nothing writes -/
theorem S_cell {x : Str} {pos : Pos} {i : Nat} {c a : Addr} {o : Obj} (hk : env.scope.kind = .function) (hl : env.kindOf x = some .cell) (hc : env.cells.lookup x = some c) (ho : κ c = some o) (hd : o.data = .cell (some (.ref a))) (hp : (i, a) ∈ pins) (hb : (x == ("__debug__" : Str)) = false := by decide) :
    S (model prog w) A (RF κ L names pins) VR (eval (.Name x pos) env) (okA (.ref i)) := by
  refine .mk fun σ st s b st' hI e Q hQ => ?_
  cases e
  refine wpAny_Name (wpAny_loadName_cell hk hl hc ⟨o, hI.rh.keep _ _ ho, hd⟩ ?_) hb
  exact hQ [] s.heap s.toks _ (app_nil_heap hI) ⟨a, get_app (hI.pin _ hp) [], rfl⟩
end
end Mine
end
section
open PySem PySem.W PyProof.Rows PySem.Calls PySem.Spec
set_option maxRecDepth 100000
namespace Mine
section
variable {prog : Program} {w : World} {A : Around} {I : List Addr → AS → Heap → Prop} {env : Env} {κ : Kp}

theorem S_USub {n : Int} {k : Nat} {p pos : Pos} : S (model prog w) A I VR (eval (.UnaryOp .USub (.Constant (.int n) k p) pos) env) (okA (.int (-n))) := by
  refine .mk fun σ st s b st' hI e Q hQ => ?_
  cases e
  exact wpAny_UnaryOp (wpAny_Constant_int (neg_int (hQ [] s.heap _ _ (app_nil_heap hI) ⟨_, rfl⟩)))

theorem two_strs {a b : AV} {β : Type} {k : List Nat → List Nat → Option β} {r : β} (e : (onStr a fun x => onStr b fun y => k x y) = some r) : ∃ x y, a = .str x ∧ b = .str y ∧ k x y = some r := by
  obtain ⟨x, h1, e⟩ := onStr_some e
  obtain ⟨y, h2, e⟩ := onStr_some e
  exact ⟨x, y, h1, h2, e⟩
theorem two_refs {a b : AV} {β : Type} {k : Nat → Nat → Option β} {r : β} (e : (onRef a fun x => onRef b fun y => k x y) = some r) : ∃ x y, a = .ref x ∧ b = .ref y ∧ k x y = some r := by
  obtain ⟨x, h1, e⟩ := onRef_some e
  obtain ⟨y, h2, e⟩ := onRef_some e
  exact ⟨x, y, h1, h2, e⟩
/- texts -/
noncomputable def sAdd (a b : AV) : Option AV := onStr a fun x => onStr b fun y => onBool (Nat.ble (lenR x) 1000) (onBool (Nat.ble (lenR y) 1000) (some (.str (appR x y))))
theorem O_sadd : Op2 (model prog w) A I VR (binaryOp .Add) (o2 sAdd) := Op2.pure fun a c a' c' σ s b Q ha hc e hQ => by
  obtain ⟨x, y, rfl, rfl, e⟩ := two_strs e
  obtain ⟨h1, e⟩ := onBool_some e
  obtain ⟨h2, e⟩ := onBool_some e
  cases e
  rw [Nat.ble_eq, lenR_eq] at h1 h2
  obtain ⟨t, rfl⟩ := ha; obtain ⟨u, rfl⟩ := hc
  refine PyProof.Rows.add_str (fun t' tk => hQ tk _ ⟨t', ?_⟩) ?_
  · rw [appR_eq]
    show Value.str ((⟨x.toArray⟩ : Str) ++ (⟨y.toArray⟩ : Str)) t' = _
    have : ((⟨x.toArray⟩ : Str) ++ (⟨y.toArray⟩ : Str)) = ⟨(x ++ y).toArray⟩ := by
      show (⟨x.toArray ++ y.toArray⟩ : Str) = _
      simp
    rw [this]
  · have e1 : Str.length ⟨x.toArray⟩ = x.length := by simp [Str.length]
    have e2 : Str.length ⟨y.toArray⟩ = y.length := by simp [Str.length]
    rw [e1, e2]
    have : 2000 ≤ sizeLine := by decide
    omega
noncomputable def notR (b : Bool) : Bool := @Bool.rec (fun _ => Bool) true false b
theorem notR_eq (b : Bool) : notR b = !b := by cases b <;> rfl
noncomputable def sNe (a b : AV) : Option Bool := onStr a fun x => onStr b fun y => some (notR (eqL x y))
theorem O_sne : Op2 (model prog w) A I VB (compareOp .NotEq) (o2 sNe) := Op2.pure fun a c a' c' σ s b Q ha hc e hQ => by
  obtain ⟨x, y, rfl, rfl, e⟩ := two_strs e
  cases e
  obtain ⟨t, rfl⟩ := ha; obtain ⟨u, rfl⟩ := hc
  refine P.ne_str (hQ s.toks _ ?_)
  show _ = Value.bool _
  rw [notR_eq, eqL_eq]
  simp [bne]

/- tuples as targets -/
noncomputable def aTup2 (i j : Nat) (v : AV) (st : AS) : Option (Unit × AS) := onRef v fun r => onTuple (nthR st.heap r) fun xs => arg2 xs fun a b => some ((), ⟨setR (setR st.loc (some a) i) (some b) j, st.cmp, st.heap⟩)
theorem go_tup {elts : List PySem.Expr} {k : Nat} {tp : Pos} {i j : Nat} : ∀ σ J src y v s (Q : Unit → Shared → Prop) (E : Value → Shared → Prop), IterAt σ J src s.heap → VR σ y v → (∃ st r, aTup2 i j y st = some r) → Q () s → wpAny (model prog w) A (letOwnedTupleGo (.Tuple elts k tp) (.ref J) v) Q E s := by
  intro σ J src y v s Q E it hv hg hQ
  obtain ⟨st, r, hg⟩ := hg
  obtain ⟨a, rfl, _⟩ := onRef_some hg
  cases src with
  | lst x z => exact it.letGo hQ ⟨_, _, hv⟩
  | rng x z =>
    obtain ⟨T, _, rfl⟩ := hv
    unfold letOwnedTupleGo
    refine wpAny_bind (wpAny_load it ?_)
    show wpAny _ A (if (["enumerate", "zip", "dict_itemiterator", "dict_reverseitemiterator", "odict_iterator", "itertools.zip_longest", "itertools.pairwise"].contains "range_iterator" &&
      _) = true then _ else _) Q E s
    rw [if_neg (by
      intro h
      rw [show (["enumerate", "zip", "dict_itemiterator", "dict_reverseitemiterator", "odict_iterator", "itertools.zip_longest", "itertools.pairwise"].contains "range_iterator") = false from by decide, Bool.false_and] at h
      cases h)]
    exact wpAny_pure hQ
end

section
variable {prog : Program} {w : World} {A : Around} {κ : Kp} {L : Addr} {names : List Str} {pins : List (Nat × Addr)} {env : Env}
theorem O_tup2 (hh : A.handled = none) {x y : Str} {px py tp : Pos} {k : Nat} {i j : Nat} (e0 : E0 env L) (hx : env.kindOf x = some .local) (hi : names[i]? = some x) (hy : env.kindOf y = some .local) (hj : names[j]? = some y) :
    Op1 (model prog w) A (RF κ L names pins) UR (assign (.Tuple [.Name x px, .Name y py] k tp) env) (aTup2 i j) := by
  intro a a' σ st s b st' hI ha e Q hQ
  obtain ⟨r, rfl, e⟩ := onRef_some e
  obtain ⟨xs, hxs, e⟩ := onTuple_some e
  obtain ⟨p, q, rfl, e⟩ := arg2_some e
  cases e
  rw [nthR_eq] at hxs
  obtain ⟨l, o, rfl, hl, h3, vs, n, rfl, hvs⟩ := hI.rh.read hxs ha
  obtain ⟨u, v, rfl, hu, hv⟩ := vrs2 hvs
  refine wpAny_assign_Tuple hh (items := #[u, v]) ⟨_, h3, rfl, _, rfl⟩ rfl rfl fun h' he => ?_
  obtain ⟨f1, f2, f3⟩ := hI.fresh
  have R₁ := hI.turn f1 f2 f3 he
  refine wpAny_assignInOrder_more ?_
  refine wpAny_assign_Name (O_store e0 hx hi p u σ st { s with heap := h' } () _ R₁ hu rfl _ fun τ₁ h₁ t₁ _ R₂ _ => ?_)
  refine wpAny_assignInOrder_more ?_
  refine wpAny_assign_Name (O_store e0 hy hj q v _ _ { s with heap := h₁, toks := t₁ } () _ R₂ (hv.mono τ₁) rfl _ fun τ₂ h₂ t₂ _ R₃ _ => ?_)
  refine wpAny_assignInOrder_none ?_
  rw [List.append_assoc] at R₃
  exact hQ _ _ _ _ R₃ trivial
noncomputable def aAssignT (f : AS → Option (AV × AS)) (g : AV → AS → Option (Unit × AS)) : AS → Option (AF × AS) := seqA f fun v => seqA (g v) fun _ => okA .next
theorem S_AssignTup {I : List Addr → AS → Heap → Prop} {elts : List PySem.Expr} {k : Nat} {tp pos : Pos} {value : PySem.Expr} {f : AS → Option (AV × AS)} {g : AV → AS → Option (Unit × AS)} (h : S (model prog w) A I VR (eval value env) f) (hg : Op1 (model prog w) A I UR (assign (.Tuple elts k tp) env) g)
    (hs : swapsWithSole [.Tuple elts k tp] value pos.line env = pure false := by rfl)
    (hw : swappedStores [.Tuple elts k tp] value env = pure none := by rfl) : S (model prog w) A I FR (exec (.Assign [.Tuple elts k tp] value pos) env) (aAssignT f g) := by
  refine .mk fun σ st s b st' hI e Q hQ => ?_
  obtain ⟨a, st₁, e1, e⟩ := seqA_some e
  obtain ⟨u, st₂, e2, e⟩ := seqA_some e
  cases e
  refine PyProof.Rows.Assign_Tuple (h.run σ st s a _ hI e1 _ fun τ₁ h₁ t₁ a' I₁ r₁ => hg _ _ _ _ _ _ _ I₁ r₁ e2 _ fun τ₂ h₂ t₂ x' I₂ _ => ?_) hs hw
  rw [List.append_assoc] at I₂
  exact hQ _ _ _ _ I₂ rfl
end

/- lists against lists -/
section
variable {prog : Program} {w : World} {A : Around} {I : List Addr → AS → Heap → Prop} {env : Env} {κ : Kp}
noncomputable def eqV (a b : AV) : Option Bool := sEq a b
/-- are two lists of ints and texts the same -/
noncomputable def eqVs (xs : List AV) : List AV → Option Bool := @List.rec AV (fun _ => List AV → Option Bool) (fun ys => @List.rec AV (fun _ => Option Bool) (some true) (fun _ _ _ => none) ys)
  (fun a _ ih ys => @List.rec AV (fun _ => Option Bool) none (fun b r _ => onSome (sEq a b) fun c => onSome (ih r) fun d => some (@Bool.rec (fun _ => Bool) false d c)) ys) xs
theorem sEq_at {σ : List Addr} {a b : AV} {v u : Value} {c : Bool} (ha : VR σ a v) (hb : VR σ b u) (e : sEq a b = some c) (A : Around) (s : Shared) : PySem.SeqAt.EqAt A s v u c := by
  cases a with
  | int x =>
    obtain ⟨y, rfl, e⟩ := onInt_some (a := b) e
    cases e; obtain ⟨t, rfl⟩ := ha; obtain ⟨z, rfl⟩ := hb
    rw [eqI_eq]
    exact (PySem.MeetsSeq.EqGives.int _ _ _ _).at A s
  | str x =>
    obtain ⟨y, rfl, e⟩ := onStr_some (a := b) e
    cases e; obtain ⟨t, rfl⟩ := ha; obtain ⟨z, rfl⟩ := hb
    rw [eqL_eq]
    have := (PySem.SeqRoads2.EqGives.str ⟨x.toArray⟩ ⟨y.toArray⟩ t z).at A s
    simpa using this
  | none => cases e
  | bool b => cases e
  | ref i => cases e
theorem eqVs_at {σ : List Addr} {xs ys : List AV} {vs us : List Value} (hv : VRs σ xs vs) (hu : VRs σ ys us) {c : Bool} (e : eqVs xs ys = some c) (A : Around) (s : Shared) :
    ∃ f : Nat → Bool, xs.length = ys.length ∧ (∀ j (h1 : j < vs.length) (h2 : j < us.length), PySem.SeqAt.EqAt A s vs[j] us[j] (f j)) ∧ (List.range vs.length).all f = c := by
  induction hv generalizing ys us c with
  | nil =>
    cases ys with
    | nil => cases e; exact ⟨fun _ => true, rfl, fun j h1 _ => absurd h1 (Nat.not_lt_zero _), rfl⟩
    | cons y ys => cases e
  | @cons a v as vs h1 h2 ih =>
    cases hu with
    | nil => cases e
    | @cons b u bs us k1 k2 =>
      obtain ⟨p, e1, e⟩ := onSome_some (o := sEq a b) e
      obtain ⟨q, e2, e⟩ := onSome_some (o := eqVs as bs) e
      cases e
      obtain ⟨f, hl, hf, hq⟩ := ih k2 e2
      refine ⟨fun j => match j with | 0 => p | j + 1 => f j, by simp [hl], ?_, ?_⟩
      · intro j hj1 hj2
        cases j with
        | zero => exact sEq_at h1 k1 e1 A s
        | succ j => exact hf j (by simpa using hj1) (by simpa using hj2)
      · rw [List.length_cons, List.range_succ_eq_map, List.all_cons, List.all_map]
        have : ((fun j => match j with | 0 => p | j + 1 => f j) ∘ Nat.succ) = f := by funext j; rfl
        rw [this, hq]
        cases p <;> rfl
noncomputable def lCmp (neg : Bool) (a b : AV) (st : AS) : Option (Bool × AS) := onRef a fun r => onRef b fun q => onList (nthR st.heap r) fun xs => onList (nthR st.heap q) fun ys =>
  @Bool.rec (fun _ => Option (Bool × AS)) (some (neg, st)) (onSome (eqVs xs ys) fun c => some (@Bool.rec (fun _ => Bool) c (notR c) neg, st)) (Nat.beq (lenR xs) (lenR ys))
theorem O_leq (V : IsInv κ I) (hu : A.units < cLine) : Op2 (model prog w) A I VB (compareOp .Eq) (lCmp false) := by
  intro a c a' c' σ st s b st' hI ha hc e Q hQ
  obtain ⟨r, q, rfl, rfl, e⟩ := two_refs e
  obtain ⟨xs, hx, e⟩ := onList_some e
  obtain ⟨ys, hy, e⟩ := onList_some e
  rw [nthR_eq] at hx hy
  obtain ⟨l, o, rfl, hl, h3, vs, m, rfl, hvs⟩ := (V.rh hI).read hx ha
  obtain ⟨l2, o2, rfl, hl2, h4, us, m2, rfl, hus⟩ := (V.rh hI).read hy hc
  rw [lenR_eq, lenR_eq] at e
  cases hlen : Nat.beq xs.length ys.length with
  | false =>
    rw [hlen] at e
    cases e
    refine PySem.SeqAt.eq_list_lengthsAt (items := List.toArray vs) (items2 := List.toArray us) ⟨_, h3, rfl, _, rfl⟩ ⟨_, h4, rfl, _, rfl⟩ ?_ hu (hQ [] s.heap s.toks _ (app_nil_heap hI) rfl)
    have := Nat.ne_of_beq_eq_false hlen
    simpa [hvs.length, hus.length] using this
  | true =>
    rw [hlen] at e
    obtain ⟨k, e1, e⟩ := onSome_some (o := eqVs xs ys) e
    cases e
    obtain ⟨f, _, hf, hall⟩ := eqVs_at hvs hus e1 A.in1 s
    have hl' := Nat.eq_of_beq_eq_true hlen
    refine PySem.SeqAt.eq_listAt (items := List.toArray vs) (items2 := List.toArray us) (e := f) ⟨_, h3, rfl, _, rfl⟩ ⟨_, h4, rfl, _, rfl⟩ (by simp [hvs.length, hus.length, hl']) hu (fun j h1 h2 => by simpa using hf j (by simpa using h1) (by simpa using h2)) ?_
    rw [List.size_toArray, hall]
    exact hQ [] s.heap s.toks _ (app_nil_heap hI) rfl
theorem O_lne (V : IsInv κ I) (hu : A.units < cLine) : Op2 (model prog w) A I VB (compareOp .NotEq) (lCmp true) := by
  intro a c a' c' σ st s b st' hI ha hc e Q hQ
  obtain ⟨r, q, rfl, rfl, e⟩ := two_refs e
  obtain ⟨xs, hx, e⟩ := onList_some e
  obtain ⟨ys, hy, e⟩ := onList_some e
  rw [nthR_eq] at hx hy
  obtain ⟨l, o, rfl, hl, h3, vs, m, rfl, hvs⟩ := (V.rh hI).read hx ha
  obtain ⟨l2, o2, rfl, hl2, h4, us, m2, rfl, hus⟩ := (V.rh hI).read hy hc
  rw [lenR_eq, lenR_eq] at e
  cases hlen : Nat.beq xs.length ys.length with
  | false =>
    rw [hlen] at e
    cases e
    refine (fun (h : PySem.SeqAt.RcNeAt A s _ _ _) hq => h prog w _ _ hq) (PySem.SeqAt.RcNeAt.lists_lengths (items := List.toArray vs) (items2 := List.toArray us) ⟨_, h3, rfl, _, rfl⟩ ⟨_, h4, rfl, _, rfl⟩ ?_ hu) (hQ [] s.heap s.toks _ (app_nil_heap hI) rfl)
    have := Nat.ne_of_beq_eq_false hlen
    simpa [hvs.length, hus.length] using this
  | true =>
    rw [hlen] at e
    obtain ⟨k, e1, e⟩ := onSome_some (o := eqVs xs ys) e
    cases e
    obtain ⟨f, _, hf, hall⟩ := eqVs_at hvs hus e1 A.in1 s
    have hl' := Nat.eq_of_beq_eq_true hlen
    refine (fun (h : PySem.SeqAt.RcNeAt A s _ _ _) hq => h prog w _ _ hq) (PySem.SeqAt.RcNeAt.lists (items := List.toArray vs) (items2 := List.toArray us) (e := f) ⟨_, h3, rfl, _, rfl⟩ ⟨_, h4, rfl, _, rfl⟩ (by simp [hvs.length, hus.length, hl']) hu (fun j h1 h2 => by simpa using hf j (by simpa using h1) (by simpa using h2))) ?_
    rw [List.size_toArray, hall]
    exact hQ [] s.heap s.toks _ (app_nil_heap hI) (by show _ = Value.bool (notR k); rw [notR_eq])
end
end Mine
end
section
open PySem PySem.W PyProof.Rows PySem.Calls PySem.Spec
set_option maxRecDepth 100000
namespace Mine
abbrev sOf (x : List Nat) : Str := ⟨x.toArray⟩
theorem len_sOf (x : List Nat) : Str.length (sOf x) = x.length := by simp [Str.length]

/-- a list of texts -/
noncomputable def strsOf (xs : List AV) : Option (List (List Nat)) := @List.rec AV (fun _ => Option (List (List Nat))) (some []) (fun a _ ih => onStr a fun x => onSome ih fun r => some (x :: r)) xs
theorem strs_are {σ : List Addr} {xs : List AV} {vs : List Value} (h : VRs σ xs vs) : ∀ {ys : List (List Nat)}, strsOf xs = some ys → ∃ l : List (Str × Tok), strValues l = vs ∧ l.map (·.1) = ys.map sOf := by
  induction h with
  | nil => intro ys e; cases e; exact ⟨[], rfl, rfl⟩
  | @cons a v as us h1 h2 ih =>
    intro ys e
    obtain ⟨x, rfl, e⟩ := onStr_some (a := a) e
    obtain ⟨r, hr, e⟩ := onSome_some (o := strsOf as) e
    cases e
    obtain ⟨t, rfl⟩ := h1
    obtain ⟨l, e1, e2⟩ := ih hr
    exact ⟨(sOf x, t) :: l, by subst e1; rfl, by simp [e2]⟩
noncomputable def joinR (sep : List Nat) (ys : List (List Nat)) : List Nat := @List.rec (List Nat) (fun _ => List Nat) [] (fun x r ih => @List.rec (List Nat) (fun _ => List Nat) x (fun _ _ _ => appR x (appR sep ih)) r) ys
theorem joinR_eq (sep : List Nat) : ∀ ys : List (List Nat), Str.join (sOf sep) (ys.map sOf) = sOf (joinR sep ys)
  | [] => rfl
  | [x] => rfl
  | x :: y :: r => by
    show sOf x ++ sOf sep ++ Str.join (sOf sep) ((y :: r).map sOf) = sOf (appR x (appR sep (joinR sep (y :: r))))
    rw [joinR_eq sep (y :: r), appR_eq, appR_eq]
    show (⟨x.toArray ++ sep.toArray ++ (joinR sep (y :: r)).toArray⟩ : Str) = _
    simp
/-- all short, and not many -/
noncomputable def shortR (ys : List (List Nat)) : Bool := @List.rec (List Nat) (fun _ => Bool) true (fun x _ ih => @Bool.rec (fun _ => Bool) false ih (Nat.ble (lenR x) 1000)) ys
theorem shortR_mem {ys : List (List Nat)} (h : shortR ys = true) : ∀ y ∈ ys, y.length ≤ 1000 := by
  induction ys with
  | nil => intro y hy; cases hy
  | cons x r ih =>
    have h' : @Bool.rec (fun _ => Bool) false (shortR r) (Nat.ble (lenR x) 1000) = true := h
    cases hx : Nat.ble (lenR x) 1000 with
    | false => rw [hx] at h'; cases h'
    | true =>
      rw [hx] at h'
      rw [Nat.ble_eq, lenR_eq] at hx
      intro y hy
      rcases List.mem_cons.mp hy with e | hy
      · rw [e]; exact hx
      · exact ih h' y hy
noncomputable def bJoin (as : List AV) (st : AS) : Option (AV × AS) := arg2 as fun a b => onStr a fun sep => onRef b fun r => onList (nthR st.heap r) fun xs => onSome (strsOf xs) fun ys =>
  onBool (shortR ys) (onBool (Nat.ble (lenR ys) 1000) (onBool (Nat.ble (lenR sep) 1000) (some (.str (joinR sep ys), st))))

section
variable {prog : Program} {w : World} {A : Around} {I : List Addr → AS → Heap → Prop} {env : Env} {κ : Kp}
theorem O_join (V : IsInv κ I) : OpN (model prog w) A I VR (fun vs => call (.builtin "str.join") vs) bJoin := by
  intro as as' σ st s b st' hI ha e Q hQ
  obtain ⟨a, d, rfl, e⟩ := arg2_some e
  obtain ⟨sep, rfl, e⟩ := onStr_some e
  obtain ⟨r, rfl, e⟩ := onRef_some e
  obtain ⟨xs, hx, e⟩ := onList_some e
  obtain ⟨ys, hy, e⟩ := onSome_some e
  obtain ⟨h1, e⟩ := onBool_some e
  obtain ⟨h2, e⟩ := onBool_some e
  obtain ⟨h3, e⟩ := onBool_some e
  cases e
  rw [nthR_eq] at hx
  rw [Nat.ble_eq, lenR_eq] at h2 h3
  obtain ⟨a', d', rfl, ⟨t, rfl⟩, hd⟩ := vrs2 ha
  obtain ⟨l, o, rfl, hs, h4, vs, n, rfl, hvs⟩ := (V.rh hI).read hx hd
  obtain ⟨pl, e1, e2⟩ := strs_are hvs hy
  subst e1
  refine SC.join (l := pl) (texts := ys.map sOf) ⟨_, h4, rfl, _, rfl⟩ e2 ?_ fun t' k => ?_
  · unfold JoinOk
    have := StrLaws.joinFits (sep := sOf sep) (texts := ys.map sOf) (B := 1000) (fun y hy' => by
      obtain ⟨z, hz, rfl⟩ := List.mem_map.mp hy'
      rw [len_sOf]
      exact shortR_mem h1 z hz) (by
      rw [List.length_map, len_sOf]
      have q1 : ys.length * 1000 ≤ 1000 * 1000 := Nat.mul_le_mul_right _ h2
      have q2 : ys.length * sep.length ≤ 1000 * 1000 := Nat.mul_le_mul h2 h3
      omega)
    rw [this]; rfl
  · have e3 : Txt.join (sOf sep) (ys.map sOf) = sOf (joinR sep ys) := (StrLaws.glued_eq_join _ _).trans (joinR_eq _ _)
    rw [e3]
    exact hQ [] s.heap k _ (app_nil_heap hI) ⟨t', rfl⟩

/- str(k) of a digit -/
noncomputable def bStr (as : List AV) (st : AS) : Option (AV × AS) := arg1 as fun a => onInt a fun i => onNat i fun n => onBool (Nat.ble n 9) (some (.str [Nat.add 48 n], st))
theorem digit_str : ∀ n : Fin 10, Str.ofString (toString ((n.val : Nat) : Int)) = sOf [Nat.add 48 n.val] := by decide +kernel
theorem O_str : OpN (model prog w) A I VR (fun vs => call (.type "str") vs) bStr := by
  intro as as' σ st s b st' hI ha e Q hQ
  obtain ⟨a, rfl, e⟩ := arg1_some e
  obtain ⟨i, rfl, e⟩ := onInt_some e
  obtain ⟨n, rfl, e⟩ := onNat_some e
  obtain ⟨h1, e⟩ := onBool_some e
  cases e
  rw [Nat.ble_eq] at h1
  obtain ⟨a', rfl, ⟨t, rfl⟩⟩ := vrs1 ha
  have ed := digit_str ⟨n, by omega⟩
  refine P.str_of_int ?_ ?_
  · rw [Int.natAbs_natCast]
    have : n.log2 ≤ n := Nat.log2_le_self n
    omega
  · exact hQ [] s.heap _ _ (app_nil_heap hI) ⟨s.toks, by rw [ed]⟩

/- tables of texts -/
noncomputable def tabL (t : List (List Nat × List Nat)) (x : List Nat) : Option (List Nat) := @List.rec (List Nat × List Nat) (fun _ => Option (List Nat)) none (fun p _ ih => @Bool.rec (fun _ => Option (List Nat)) ih (some p.2) (eqL p.1 x)) t
theorem tabL_mem {t : List (List Nat × List Nat)} {x y : List Nat} (h : tabL t x = some y) : (x, y) ∈ t := by
  induction t with
  | nil => cases h
  | cons p t ih =>
    have h' : @Bool.rec (fun _ => Option (List Nat)) (tabL t x) (some p.2) (eqL p.1 x) = some y := h
    cases e : eqL p.1 x with
    | false => rw [e] at h'; exact List.mem_cons_of_mem _ (ih h')
    | true =>
      rw [e] at h'
      cases h'
      rw [eqL_eq, beq_iff_eq] at e
      subst e
      exact List.mem_cons_self ..
def upW : List (List Nat) := [[79,80,84,73,77,73,90,69,68], [78,69,87,76,79,67,65,76,83], [86,65,82,65,82,71,83], [86,65,82,75,69,89,87,79,82,68,83], [78,69,83,84,69,68], [71,69,78,69,82,65,84,79,82], [78,79,70,82,69,69]]
def loW : List (List Nat) := [[111,112,116,105,109,105,122,101,100], [110,101,119,108,111,99,97,108,115], [118,97,114,97,114,103,115], [118,97,114,107,101,121,119,111,114,100,115], [110,101,115,116,101,100], [103,101,110,101,114,97,116,111,114], [110,111,102,114,101,101]]
def lowTab : List (List Nat × List Nat) := [([79,80,84,73,77,73,90,69,68], [111,112,116,105,109,105,122,101,100]), ([78,69,87,76,79,67,65,76,83], [110,101,119,108,111,99,97,108,115]), ([86,65,82,65,82,71,83], [118,97,114,97,114,103,115]), ([86,65,82,75,69,89,87,79,82,68,83], [118,97,114,107,101,121,119,111,114,100,115]), ([78,69,83,84,69,68], [110,101,115,116,101,100]), ([71,69,78,69,82,65,84,79,82], [103,101,110,101,114,97,116,111,114]), ([78,79,70,82,69,69], [110,111,102,114,101,101]),
  ([111,112,116,105,109,105,122,101,100], [111,112,116,105,109,105,122,101,100]), ([110,101,119,108,111,99,97,108,115], [110,101,119,108,111,99,97,108,115]), ([118,97,114,97,114,103,115], [118,97,114,97,114,103,115]), ([118,97,114,107,101,121,119,111,114,100,115], [118,97,114,107,101,121,119,111,114,100,115]), ([110,101,115,116,101,100], [110,101,115,116,101,100]), ([103,101,110,101,114,97,116,111,114], [103,101,110,101,114,97,116,111,114]), ([110,111,102,114,101,101], [110,111,102,114,101,101])]
def uppTab : List (List Nat × List Nat) := [([79,80,84,73,77,73,90,69,68], [79,80,84,73,77,73,90,69,68]), ([78,69,87,76,79,67,65,76,83], [78,69,87,76,79,67,65,76,83]), ([86,65,82,65,82,71,83], [86,65,82,65,82,71,83]), ([86,65,82,75,69,89,87,79,82,68,83], [86,65,82,75,69,89,87,79,82,68,83]), ([78,69,83,84,69,68], [78,69,83,84,69,68]), ([71,69,78,69,82,65,84,79,82], [71,69,78,69,82,65,84,79,82]), ([78,79,70,82,69,69], [78,79,70,82,69,69]),
  ([111,112,116,105,109,105,122,101,100], [79,80,84,73,77,73,90,69,68]), ([110,101,119,108,111,99,97,108,115], [78,69,87,76,79,67,65,76,83]), ([118,97,114,97,114,103,115], [86,65,82,65,82,71,83]), ([118,97,114,107,101,121,119,111,114,100,115], [86,65,82,75,69,89,87,79,82,68,83]), ([110,101,115,116,101,100], [78,69,83,84,69,68]), ([103,101,110,101,114,97,116,111,114], [71,69,78,69,82,65,84,79,82]), ([110,111,102,114,101,101], [78,79,70,82,69,69])]
theorem low_ok : ∀ p ∈ lowTab, Txt.lower (sOf p.1) = sOf p.2 ∧ Builtin.Str.tooLong (Txt.lower (sOf p.1)).length = false := by decide +kernel
theorem upp_ok : ∀ p ∈ uppTab, Txt.upper (sOf p.1) = sOf p.2 ∧ Builtin.Str.tooLong (Txt.upper (sOf p.1)).length = false := by decide +kernel
noncomputable def bTab (t : List (List Nat × List Nat)) (as : List AV) (st : AS) : Option (AV × AS) := arg1 as fun a => onStr a fun x => onSome (tabL t x) fun y => some (.str y, st)
theorem O_lower : OpN (model prog w) A I VR (fun vs => call (.builtin "str.lower") vs) (bTab lowTab) := by
  intro as as' σ st s b st' hI ha e Q hQ
  obtain ⟨a, rfl, e⟩ := arg1_some e
  obtain ⟨x, rfl, e⟩ := onStr_some e
  obtain ⟨y, hy, e⟩ := onSome_some e
  cases e
  obtain ⟨a', rfl, ⟨t, rfl⟩⟩ := vrs1 ha
  obtain ⟨h1, h2⟩ := low_ok _ (tabL_mem hy)
  refine SC.lower h2 ?_
  rw [h1]
  exact hQ [] s.heap _ _ (app_nil_heap hI) ⟨_, rfl⟩
theorem O_upper : OpN (model prog w) A I VR (fun vs => call (.builtin "str.upper") vs) (bTab uppTab) := by
  intro as as' σ st s b st' hI ha e Q hQ
  obtain ⟨a, rfl, e⟩ := arg1_some e
  obtain ⟨x, rfl, e⟩ := onStr_some e
  obtain ⟨y, hy, e⟩ := onSome_some e
  cases e
  obtain ⟨a', rfl, ⟨t, rfl⟩⟩ := vrs1 ha
  obtain ⟨h1, h2⟩ := upp_ok _ (tabL_mem hy)
  refine SC.upper h2 ?_
  rw [h1]
  exact hQ [] s.heap _ _ (app_nil_heap hI) ⟨_, rfl⟩

/- hex of the flags -/
noncomputable def tabN (t : List (Nat × List Nat)) (x : Nat) : Option (List Nat) := @List.rec (Nat × List Nat) (fun _ => Option (List Nat)) none (fun p _ ih => @Bool.rec (fun _ => Option (List Nat)) ih (some p.2) (Nat.beq p.1 x)) t
theorem tabN_mem {t : List (Nat × List Nat)} {x : Nat} {y : List Nat} (h : tabN t x = some y) : (x, y) ∈ t := by
  induction t with
  | nil => cases h
  | cons p t ih =>
    have h' : @Bool.rec (fun _ => Option (List Nat)) (tabN t x) (some p.2) (Nat.beq p.1 x) = some y := h
    cases e : Nat.beq p.1 x with
    | false => rw [e] at h'; exact List.mem_cons_of_mem _ (ih h')
    | true =>
      rw [e] at h'
      cases h'
      rw [Nat.beq_eq] at e
      subst e
      exact List.mem_cons_self ..
def hexTab : List (Nat × List Nat) := [(1, [48,120,49]), (2, [48,120,50]), (4, [48,120,52]), (8, [48,120,56]), (16, [48,120,49,48]), (32, [48,120,50,48]), (64, [48,120,52,48])]
theorem hex_ok : ∀ p ∈ hexTab, baseText "0x" 16 ((p.1 : Nat) : Int) = sOf p.2 ∧ (baseText "0x" 16 ((p.1 : Nat) : Int)).length ≤ sizeLine := by decide +kernel
noncomputable def bHex (as : List AV) (st : AS) : Option (AV × AS) := arg1 as fun a => onInt a fun i => onNat i fun n => onSome (tabN hexTab n) fun y => some (.str y, st)
theorem O_hex : OpN (model prog w) A I VR (fun vs => call (.builtin "hex") vs) bHex := by
  intro as as' σ st s b st' hI ha e Q hQ
  obtain ⟨a, rfl, e⟩ := arg1_some e
  obtain ⟨i, rfl, e⟩ := onInt_some e
  obtain ⟨n, rfl, e⟩ := onNat_some e
  obtain ⟨y, hy, e⟩ := onSome_some e
  cases e
  obtain ⟨a', rfl, ⟨t, rfl⟩⟩ := vrs1 ha
  obtain ⟨h1, h2⟩ := hex_ok _ (tabN_mem hy)
  refine P.hex_of_int ?_ h2
  rw [h1]
  exact hQ [] s.heap _ _ (app_nil_heap hI) ⟨_, rfl⟩

/- the table of flags, which nothing writes -/
def flagTab : List (Nat × List Nat) := [(1, [79,80,84,73,77,73,90,69,68]), (2, [78,69,87,76,79,67,65,76,83]), (4, [86,65,82,65,82,71,83]), (8, [86,65,82,75,69,89,87,79,82,68,83]), (16, [78,69,83,84,69,68]), (32, [71,69,78,69,82,65,84,79,82]), (64, [78,79,70,82,69,69])]
noncomputable def bFlag (as : List AV) (st : AS) : Option (AV × AS) := arg2 as fun a _ => onInt a fun i => onNat i fun n => onSome (tabN flagTab n) fun y => some (.str y, st)
theorem O_flag (V : IsInv κ I) {d : Addr} {o : Obj} {es : Array DictEntry} {ep : Nat} (hk : κ d = some o) (hx : o.ExactDict) (hd : o.data = .dict es ep) (hkeys : KeysOf (intKind prog w) es)
    (hfind : ∀ p ∈ flagTab, ∃ t, findBy (intKind prog w).is es ((p.1 : Nat) : Int) = some (.str (sOf p.2) t)) (hs : (d == sysModules) = false) : OpN (model prog w) A I VR (fun vs => call (.builtin "dict.get") (.ref d :: vs)) bFlag := by
  intro as as' σ st s b st' hI ha e Q hQ
  obtain ⟨a, df, rfl, e⟩ := arg2_some e
  obtain ⟨i, rfl, e⟩ := onInt_some e
  obtain ⟨n, rfl, e⟩ := onNat_some e
  obtain ⟨y, hy, e⟩ := onSome_some e
  cases e
  obtain ⟨a', d', rfl, ⟨t, rfl⟩, hdf⟩ := vrs2 ha
  obtain ⟨u, hf⟩ := hfind _ (tabN_mem hy)
  have hm : s.heap.MapOf (intKind prog w) d (fun k => findBy (intKind prog w).is es k) := ⟨o, es, ep, (V.rh hI).keep _ _ hk, hx, hd, hkeys, fun _ => rfl⟩
  refine call_meetsIn PySem.F.slot_dict_get hm.typeIs PySem.F.entry_dict_get (PySem.F.args_dict_get_3 _ _ _) (meets_dict_get_default (intKind prog w) (k := ((n : Nat) : Int)) d (by simp [intKind, Value.isInt]) hs d') ⟨_, hm, ?_⟩
  rw [hf]
  exact hQ [] s.heap _ _ (app_nil_heap hI) ⟨u, rfl⟩
end
end Mine
end
section
open PySem PySem.W PyProof.Rows PySem.Calls PySem.Spec
open PySem.Builtin PySem.Builtin.Str PySem.StrLaws
set_option maxRecDepth 100000
namespace Mine
def splL : List Nat → List (List Nat)
  | [] => [[]]
  | [a] => [[a]]
  | a :: b :: r => if a = 13 ∧ b = 10 then [] :: splL r else match splL (b :: r) with
    | [] => []
    | p :: ps => (a :: p) :: ps
def cuts : List Nat → Nat → List Nat
  | [], _ => []
  | [_], _ => []
  | a :: b :: r, i => if a = 13 ∧ b = 10 then i :: cuts r (i + 2) else cuts (b :: r) (i + 1)
def onto (u : List Nat) : List (List Nat) → List (List Nat)
  | [] => []
  | p :: ps => (u ++ p) :: ps
theorem splL_ne (L : List Nat) : ∃ p ps, splL L = p :: ps := by
  induction L using splL.induct with
  | case1 => exact ⟨_, _, rfl⟩
  | case2 a => exact ⟨_, _, rfl⟩
  | case3 a b r h ih => exact ⟨[], splL r, by rw [splL, if_pos h]⟩
  | case4 a b r h e ih => obtain ⟨p, ps, q⟩ := ih; rw [q] at e; cases e
  | case5 a b r h p ps e ih => exact ⟨a :: p, ps, by rw [splL, if_neg h, e]⟩
theorem cuts_step (L : List Nat) (i : Nat) (h : ∀ r, L ≠ 13 :: 10 :: r) : cuts L i = cuts (L.drop 1) (i + 1) := by
  match L with
  | [] => rfl
  | [a] => rfl
  | a :: b :: r =>
    rw [cuts, if_neg (fun q => h r (by rw [q.1, q.2]))]
    rfl
theorem occ_cuts (X : List Nat) : ∀ (k i : Nat) (found : Array Nat) (free : Nat), i + k = X.length + 1 → (free ≤ i ∨ free = i + 1) → found.size ≤ i →
    (forIn (List.range' i k) (found, free) (occBody (sOf X) (sOf [13, 10]) X.length (X.length + 1))).run.fst.toList = found.toList ++ (if free ≤ i then cuts (X.drop i) i else cuts (X.drop (i + 1)) (i + 1))
  | 0, i, found, free, hk, hf, hs => by
    have h1 : X.drop i = [] := List.drop_eq_nil_of_le (by omega)
    have h2 : X.drop (i + 1) = [] := List.drop_eq_nil_of_le (by omega)
    rw [h1, h2]
    show found.toList = _
    split <;> simp [cuts]
  | k + 1, i, found, free, hk, hf, hs => by
    rw [List.range'_succ, List.forIn_cons]
    have hsub : subAt (sOf X) (sOf [13, 10]) i = ((X.drop i).take 2 == [13, 10]) := by rw [subAt_eq]; simp [Str.length]
    by_cases hfi : free ≤ i
    · rw [if_pos hfi]
      by_cases hc : ∃ r, X.drop i = 13 :: 10 :: r
      · obtain ⟨r, hr⟩ := hc
        have hlen : i + 2 ≤ X.length := by
          have := congrArg List.length hr
          simp at this
          omega
        have hcond : ((found.size < X.length + 1 ∧ free ≤ i) ∧ i + (sOf [13, 10]).length ≤ X.length) ∧ subAt (sOf X) (sOf [13, 10]) i = true := by
          refine ⟨⟨⟨by omega, hfi⟩, hlen⟩, ?_⟩
          rw [hsub, hr]; rfl
        have e1 : occBody (sOf X) (sOf [13, 10]) X.length (X.length + 1) i (found, free) = pure (ForInStep.yield (found.push i, i + 2)) := by
          unfold occBody
          rw [if_pos hcond]; rfl
        rw [e1]
        have ih := occ_cuts X k (i + 1) (found.push i) (i + 2) (by omega) (.inr rfl) (by rw [Array.size_push]; omega)
        rw [if_neg (by omega)] at ih
        refine ih.trans ?_
        have hd : X.drop (i + 1 + 1) = r := by
          have : X.drop (i + 2) = (X.drop i).drop 2 := by rw [List.drop_drop]
          rw [this, hr]; rfl
        rw [hd, hr, cuts, if_pos ⟨rfl, rfl⟩, Array.toList_push]
        simp
      · have hn : ∀ r, X.drop i ≠ 13 :: 10 :: r := fun r e => hc ⟨r, e⟩
        have hcond : ¬ (((found.size < X.length + 1 ∧ free ≤ i) ∧ i + (sOf [13, 10]).length ≤ X.length) ∧ subAt (sOf X) (sOf [13, 10]) i = true) := by
          rintro ⟨_, hs2⟩
          rw [hsub, beq_iff_eq] at hs2
          match hd : X.drop i with
          | [] => rw [hd] at hs2; cases hs2
          | [a] => rw [hd] at hs2; cases hs2
          | a :: b :: r =>
            rw [hd] at hs2
            simp at hs2
            exact hn r (by rw [hd, hs2.1, hs2.2])
        have e1 : occBody (sOf X) (sOf [13, 10]) X.length (X.length + 1) i (found, free) = pure (ForInStep.yield (found, free)) := by
          unfold occBody
          rw [if_neg hcond]
        rw [e1]
        have ih := occ_cuts X k (i + 1) found free (by omega) (.inl (by omega)) (by omega)
        rw [if_pos (by omega)] at ih
        refine ih.trans ?_
        rw [cuts_step _ i hn, List.drop_drop]
    · rw [if_neg hfi]
      have hcond : ¬ (((found.size < X.length + 1 ∧ free ≤ i) ∧ i + (sOf [13, 10]).length ≤ X.length) ∧ subAt (sOf X) (sOf [13, 10]) i = true) := fun q => hfi q.1.1.2
      have e1 : occBody (sOf X) (sOf [13, 10]) X.length (X.length + 1) i (found, free) = pure (ForInStep.yield (found, free)) := by
        unfold occBody
        rw [if_neg hcond]
      rw [e1]
      have ih := occ_cuts X k (i + 1) found free (by omega) (.inl (by omega)) (by omega)
      rw [if_pos (by omega)] at ih
      exact ih

theorem strSub_sOf (X : List Nat) (a c : Nat) : strSub (sOf X) a c = sOf ((X.drop a).take (c - a)) := by
  apply Str.ext'
  apply Array.toList_inj.mp
  rw [strSub_toList]
theorem parts_spl (X : List Nat) (L : List Nat) : ∀ a i u, X.drop a = u ++ L → a + u.length = i → partsFrom (sOf X) 2 a (cuts L i) = (onto u (splL L)).map sOf := by
  induction L using splL.induct with
  | case1 =>
    intro a i u h1 h2
    show [strSub (sOf X) a (sOf X).length] = [sOf (u ++ [])]
    rw [strSub_sOf, len_sOf, List.take_of_length_le (by simp), h1]
  | case2 c =>
    intro a i u h1 h2
    show [strSub (sOf X) a (sOf X).length] = [sOf (u ++ [c])]
    rw [strSub_sOf, len_sOf, List.take_of_length_le (by simp), h1]
  | case3 c b r h ih =>
    intro a i u h1 h2
    rw [cuts, if_pos h, splL, if_pos h]
    show strSub (sOf X) a i :: partsFrom (sOf X) 2 (i + 2) (cuts r (i + 2)) = sOf (u ++ []) :: (splL r).map sOf
    have hd : X.drop (i + 2) = r := by
      have : X.drop (i + 2) = (X.drop a).drop (u.length + 2) := by rw [List.drop_drop]; congr 1; omega
      rw [this, h1]
      simp [List.drop_append]
    rw [ih (i + 2) (i + 2) [] (by rw [hd]; rfl) (by simp), strSub_sOf, h1]
    have e1 : i - a = u.length := by omega
    rw [e1]
    obtain ⟨p, ps, e⟩ := splL_ne r
    rw [e]
    simp [onto]
  | case4 c b r h e ih => obtain ⟨p, ps, q⟩ := splL_ne (b :: r); rw [q] at e; cases e
  | case5 c b r h p ps e ih =>
    intro a i u h1 h2
    rw [cuts, if_neg h, splL, if_neg h, e]
    rw [ih a (i + 1) (u ++ [c]) (by rw [h1]; simp) (by simp; omega), e]
    simp [onto]

theorem strKind_sep : strKind (sOf [13, 10]) = 1 := by decide +kernel
theorem strKind_ge (x : Str) : 1 ≤ strKind x := by
  unfold PySem.Builtin.Str.strKind
  split
  · decide
  · split <;> decide
theorem split_spl (X : List Nat) : Txt.split (sOf X) (sOf [13, 10]) = (splL X).map sOf := by
  have hocc : occurrences (sOf X) (sOf [13, 10]) 0 (sOf X).length ((sOf X).length + 1) = cuts X 0 := by
    rw [occ_eq, len_sOf]
    have := occ_cuts X (X.length + 1) 0 #[] 0 (by omega) (.inl (Nat.le_refl _)) (Nat.le_refl _)
    simpa using this
  have hparts := parts_spl X X 0 0 [] (by simp) rfl
  obtain ⟨p, ps, e⟩ := splL_ne X
  have e0 : onto [] (splL X) = splL X := by rw [e]; rfl
  rw [e0] at hparts
  unfold Txt.split
  split
  · rename_i h
    rw [strKind_sep] at h
    have h1 : ¬ strKind (sOf X) < 1 := by have := strKind_ge (sOf X); omega
    simp only [h1, decide_false, Bool.or_false, decide_eq_true_eq] at h
    rw [len_sOf] at h
    have h2 : X.length < 2 := h
    match X, h2 with
    | [], _ => rfl
    | [a], _ => rfl
  · split
    · rename_i h
      rw [hocc] at h
      have : cuts X 0 = [] := by simpa using h
      rw [this] at hparts
      rw [← hparts]
      show [sOf X] = [strSub (sOf X) 0 (sOf X).length]
      rw [strSub_sOf, len_sOf]
      simp
    · rw [hocc, partsBetween_eq]
      exact hparts

/-- the same, for the kernel to run -/
noncomputable def consH (a : Nat) (t : List (List Nat)) : List (List Nat) := @List.rec (List Nat) (fun _ => List (List Nat)) [] (fun p ps _ => (a :: p) :: ps) t
noncomputable def spF (L : List Nat) : Bool → List (List Nat) := @List.rec Nat (fun _ => Bool → List (List Nat)) (fun p => @Bool.rec (fun _ => List (List Nat)) [[]] [[13]] p)
  (fun c _ ih p => @Bool.rec (fun _ => List (List Nat)) (@Bool.rec (fun _ => List (List Nat)) (consH c (ih false)) (ih true) (Nat.beq c 13))
    (@Bool.rec (fun _ => List (List Nat)) (consH 13 (@Bool.rec (fun _ => List (List Nat)) (consH c (ih false)) (ih true) (Nat.beq c 13))) ([] :: ih false) (Nat.beq c 10)) p) L
theorem consH_eq (a : Nat) (t : List (List Nat)) : consH a t = match t with | [] => [] | p :: ps => (a :: p) :: ps := by cases t <;> rfl
theorem spF_eq (L : List Nat) : spF L false = splL L ∧ spF L true = splL (13 :: L) := by
  induction L with
  | nil => exact ⟨rfl, rfl⟩
  | cons c r ih =>
    have hF : spF (c :: r) false = splL (c :: r) := by
      show @Bool.rec (fun _ => List (List Nat)) (consH c (spF r false)) (spF r true) (Nat.beq c 13) = _
      cases h : Nat.beq c 13 with
      | true =>
        rw [Nat.beq_eq] at h
        subst h
        exact ih.2
      | false =>
        have hne : c ≠ 13 := Nat.ne_of_beq_eq_false h
        show consH c (spF r false) = _
        rw [ih.1, consH_eq]
        cases r with
        | nil => rfl
        | cons b r => rw [splL, if_neg (fun q => hne q.1)]
    refine ⟨hF, ?_⟩
    show @Bool.rec (fun _ => List (List Nat)) (consH 13 (@Bool.rec (fun _ => List (List Nat)) (consH c (spF r false)) (spF r true) (Nat.beq c 13))) ([] :: spF r false) (Nat.beq c 10) = _
    have hF' : @Bool.rec (fun _ => List (List Nat)) (consH c (spF r false)) (spF r true) (Nat.beq c 13) = splL (c :: r) := hF
    rw [hF']
    cases h : Nat.beq c 10 with
    | true =>
      rw [Nat.beq_eq] at h
      subst h
      show [] :: spF r false = _
      rw [ih.1, splL, if_pos ⟨rfl, rfl⟩]
    | false =>
      have hne : c ≠ 10 := Nat.ne_of_beq_eq_false h
      show consH 13 (splL (c :: r)) = _
      rw [consH_eq, splL, if_neg (fun q => hne q.2)]

noncomputable def mapStr (ys : List (List Nat)) : List AV := @List.rec (List Nat) (fun _ => List AV) [] (fun x _ ih => .str x :: ih) ys
theorem mapStr_eq (ys : List (List Nat)) : mapStr ys = ys.map .str := by
  induction ys with
  | nil => rfl
  | cons x r ih => exact congrArg (AV.str x :: ·) ih
noncomputable def bSplit (as : List AV) (st : AS) : Option (AV × AS) := arg2 as fun a b => onStr a fun x => onStr b fun sep => onBool (eqL sep [13, 10]) (onBool (Nat.ble (lenR x) 1000)
  (some (.ref (lenR st.heap), ⟨st.loc, st.cmp, appR st.heap [.list (mapStr (spF x false))]⟩)))
theorem splL_len (L : List Nat) : (splL L).length ≤ L.length + 1 := by
  induction L using splL.induct with
  | case1 => exact Nat.le_refl _
  | case2 a => show 1 ≤ _; simp
  | case3 a b r h ih => rw [splL, if_pos h]; simp; omega
  | case4 a b r h e ih => obtain ⟨p, ps, q⟩ := splL_ne (b :: r); rw [q] at e; cases e
  | case5 a b r h p ps e ih => rw [splL, if_neg h, e]; rw [e] at ih; simp at ih ⊢; omega
theorem strs_rel {σ : List Addr} : ∀ (l : List (Str × Tok)) (ys : List (List Nat)), l.map (·.1) = ys.map sOf → VRs σ (ys.map .str) (strValues l)
  | [], [], _ => .nil
  | [], y :: ys, h => by cases h
  | p :: l, [], h => by cases h
  | (x, t) :: l, y :: ys, h => by
    simp only [List.map_cons, List.cons.injEq] at h
    exact .cons ⟨t, by rw [h.1]⟩ (strs_rel l ys h.2)
section
variable {prog : Program} {w : World} {A : Around} {I : List Addr → AS → Heap → Prop} {env : Env} {κ : Kp}
theorem O_split (V : IsInv κ I) : OpN (model prog w) A I VR (fun vs => call (.builtin "str.split") vs) bSplit := by
  intro as as' σ st s b st' hI ha e Q hQ
  obtain ⟨a, c, rfl, e⟩ := arg2_some e
  obtain ⟨x, y, rfl, rfl, e⟩ := two_strs e
  obtain ⟨h1, e⟩ := onBool_some e
  obtain ⟨h2, e⟩ := onBool_some e
  cases e
  rw [eqL_eq, beq_iff_eq] at h1
  subst h1
  rw [Nat.ble_eq, lenR_eq] at h2
  rw [lenR_eq, appR_eq, (spF_eq x).1, mapStr_eq] at hQ
  obtain ⟨a', c', rfl, ⟨t, rfl⟩, ⟨u, rfl⟩⟩ := vrs2 ha
  have R := V.rh hI
  have fin : ∀ (l : List (Str × Tok)) (tk : Nat), l.map (·.1) = (splL x).map sOf → Q (.ref s.heap.objs.size) { s with heap := s.heap.push { cls := .type "list", data := .seq (strValues l).toArray }, toks := tk } := by
    intro l tk hl
    have I₂ := inv_alloc V hI (ao := .list ((splL x).map .str)) (o := listOf (List.toArray (strValues l)) 0) ⟨_, 0, rfl, strs_rel l _ hl⟩ rfl
    exact hQ [s.heap.objs.size] _ tk _ I₂ (vr_new R _)
  have hsp := split_spl x
  have hx : (sOf x).length ≤ sizeLine := by rw [len_sOf]; have : 1000 ≤ sizeLine := by decide
                                            omega
  cases h1 : (decide ((sOf x).length < (sOf [13, 10]).length) || decide (strKind (sOf x) < strKind (sOf [13, 10])))
  · cases hf : (occurrences (sOf x) (sOf [13, 10]) 0 (sOf x).length ((sOf x).length + 1)).isEmpty
    · have hsp' : partsBetween (sOf x) (occurrences (sOf x) (sOf [13, 10]) 0 (sOf x).length ((sOf x).length + 1)) (sOf [13, 10]).length = (splL x).map sOf := by
        rw [← hsp]; unfold Txt.split; rw [h1, hf]; simp
      refine call_meets PySem.F.slot_str_split (typeIs_str _ _ _) PySem.F.entry_str_split (PySem.F.args_str_split_2 _ _) (meets_str_split_sep (sOf x) (sOf [13, 10]) t u h1 rfl hf hx (by
        rw [hsp', List.length_map]; have := splL_len x; have : 2000 ≤ sizeLine := by decide
        omega)) ?_
      show wants Q NoE _ { s with toks := _, heap := s.heap.push { cls := .type "list", data := .seq (strsFrom s.toks (partsBetween _ _ _)).toArray } }
      rw [strsFrom_eq]
      exact fin (numbered s.toks _) _ ((numbered_texts _ _).trans hsp')
    · refine call_meets PySem.F.slot_str_split (typeIs_str _ _ _) PySem.F.entry_str_split (PySem.F.args_str_split_2 _ _) (meets_str_split_not_found (sOf x) (sOf [13, 10]) t u h1 rfl hf) ?_
      exact fin [(sOf x, t)] s.toks (by rw [← hsp]; unfold Txt.split; rw [h1, hf]; simp)
  · refine call_meets PySem.F.slot_str_split (typeIs_str _ _ _) PySem.F.entry_str_split (PySem.F.args_str_split_2 _ _) (meets_str_split_cannot_occur (sOf x) (sOf [13, 10]) t u h1) ?_
    exact fin [(sOf x, t)] s.toks (by rw [← hsp]; unfold Txt.split; rw [h1]; simp)
end
end Mine
end
section
open PySem PySem.Sre
set_option maxRecDepth 100000
namespace Mine
abbrev code1 : Array Nat := #[14, 4, 0, 1, 1, 6, 1, 16, 46, 1]
abbrev code2 : Array Nat := #[14, 9, 4, 1, 2, 16, 10, 16, 13, 0, 7, 7, 16, 13, 16, 10, 15, 18, 5, 16, 10, 15, 13, 11, 16, 13, 5, 5, 0, 16, 10, 1, 15, 2, 0, 1]
def stM (c T : Array Nat) (s last pc pos handed : Nat) (om : Bool) (fr : List Sre.Frame) (wt : Nat) (ans : Option Bool) (seen : Seen) : M :=
 { code := c, text := T, lim := T.size, start := s, lastStart := last, pc, pos, handed, outermost := om, marks := #[], frames := fr, weight := wt, answer := ans, seen }
theorem step_exec {m : M} (h1 : m.outcome = none) (h2 : m.answer = none) (h3 : m.pc < m.code.size) : m.step = m.exec := by
  unfold M.step
  rw [h1, h2]
  simp [h3]
theorem exec_lit {m : M} (hop : m.code.getD m.pc 0 = 16) : m.exec = if m.pos ≥ m.lim then ({ m with seen := m.seen.add 16 } : M).say false else
    if (m.text.getD m.pos 0 == m.code.getD (m.pc + 1) 0) = true then { m with seen := m.seen.add 16, pc := m.pc + 2, pos := m.pos + 1 } else ({ m with seen := m.seen.add 16 } : M).say false := by
  have hop' : m.word 0 = 16 := hop
  have h : ops[m.word 0]? = some .LITERAL := by rw [hop']; rfl
  have h' : ops[m.code.getD m.pc 0]? = some .LITERAL := by rw [hop]; rfl
  unfold M.exec
  rw [h]
  simp only [hop']
  have ha : ∀ x seen, accepts m.code m.pc x seen = .ok (x == m.code.getD (m.pc + 1) 0, seen) := by
    intro x seen
    unfold accepts
    rw [h']
  simp only [ha]
  have hw : itemWidth m.code m.pc = 2 := by unfold itemWidth; rw [h']
  cases hb : (m.text.getD m.pos 0 == m.code.getD (m.pc + 1) 0) with
  | true => simp [hw]
  | false => simp
theorem lit_t {c T s last pc pos handed om fr wt seen} (hop : c.getD pc 0 = 16) (hpc : pc < c.size) (hp : pos < T.size) (he : T.getD pos 0 = c.getD (pc + 1) 0) :
    (stM c T s last pc pos handed om fr wt none seen).step = stM c T s last (pc + 2) (pos + 1) handed om fr wt none (seen.add 16) := by
  rw [step_exec rfl rfl hpc, exec_lit (m := stM c T s last pc pos handed om fr wt none seen) hop]
  exact (if_neg (Nat.not_le.mpr hp)).trans ((if_pos (beq_iff_eq.mpr he)).trans rfl)
theorem lit_f {c T s last pc pos handed om fr wt seen} (hop : c.getD pc 0 = 16) (hpc : pc < c.size) (hp : T.size ≤ pos ∨ T.getD pos 0 ≠ c.getD (pc + 1) 0) :
    (stM c T s last pc pos handed om fr wt none seen).step = stM c T s last pc pos handed om fr wt (some false) (seen.add 16) := by
  rw [step_exec rfl rfl hpc, exec_lit (m := stM c T s last pc pos handed om fr wt none seen) hop]
  by_cases h : T.size ≤ pos
  · exact (if_pos h).trans rfl
  · exact (if_neg h).trans ((if_neg (fun q => (hp.resolve_left h) (beq_iff_eq.mp q))).trans rfl)

/- how a run ends -/
def Ends (m : M) (r : Option (Nat × Nat)) (B : Nat) : Prop :=
  ∃ N, N ≤ B ∧ match r with
    | some (a, b) => (M.runFor N m).outcome = some .matched ∧ (M.runFor N m).start = a ∧ (M.runFor N m).handed = b
    | none => (M.runFor N m).outcome = some .failed
theorem Ends.step {m m' : M} {r : Option (Nat × Nat)} {B : Nat} (h0 : m.outcome = none) (hs : m.step = m') (h : Ends m' r B) : Ends m r (B + 1) := by
  obtain ⟨N, hN, h⟩ := h
  refine ⟨N + 1, Nat.succ_le_succ hN, ?_⟩
  have e : M.runFor (N + 1) m = M.runFor N m' := by
    show (if m.outcome.isSome = true then m else M.runFor N m.step) = _
    rw [h0, hs]; rfl
  rw [e]; exact h
theorem Ends.le {m : M} {r : Option (Nat × Nat)} {B B' : Nat} (h : Ends m r B) (hb : B ≤ B') : Ends m r B' := let ⟨N, hN, h⟩ := h; ⟨N, Nat.le_trans hN hb, h⟩
theorem Ends.yes {m : M} {a b : Nat} (h : m.outcome = some .matched) (ha : m.start = a) (hb : m.handed = b) : Ends m (some (a, b)) 0 := ⟨0, Nat.le_refl _, h, ha, hb⟩
theorem Ends.no {m : M} (h : m.outcome = some .failed) : Ends m none 0 := ⟨0, Nat.le_refl _, h⟩

abbrev kp0 : Sre.Kept := { lastmark := -1, lastindex := -1, whole := false, marks := #[] }
abbrev fS (pc i : Nat) (om : Bool) : Sre.Frame := { wait := .nextStart, pc, pos := i, outermost := om }
abbrev fB (pc i : Nat) (om : Bool) : Sre.Frame := { wait := .nextBranch, pc, pos := i, outermost := om, kept := kp0 }
abbrev fN (i : Nat) (om : Bool) : Sre.Frame := { wait := .lookNot, pc := 26, pos := i, outermost := om, kept := kp0 }

section
variable {T : Array Nat} {s last handed pos : Nat} {om : Bool} {fr : List Sre.Frame} {wt : Nat} {seen : Seen}
/- after a match -/
theorem say_yes {c pc} : Ends (stM c T s last pc pos handed om [] wt (some true) seen) (some (s, handed)) 1 :=
  Ends.step rfl rfl (Ends.yes rfl rfl rfl)
theorem say_no {c pc} : Ends (stM c T s last pc pos handed om [] wt (some false) seen) none 1 :=
  Ends.step rfl rfl (Ends.no rfl)
theorem yes_start {c pc pc' i om'} : (stM c T s last pc pos handed om (fS pc' i om' :: fr) wt (some true) seen).step = stM c T s last pc' i handed om' fr (wt - 1) (some true) seen := rfl
theorem yes_branch {c pc pc' i om'} : (stM c T s last pc pos handed om (fB pc' i om' :: fr) wt (some true) seen).step = stM c T s last pc' i handed om' fr (wt - 1) (some true) seen := rfl

theorem b_branch (hw : wt ≤ 1000) : (stM code2 T s last 10 pos handed om fr wt none seen).step = stM code2 T s last 12 pos pos om (fB 11 pos om :: fr) (wt + 1) none (seen.add 7) := by
  rw [step_exec rfl rfl (show 10 < 36 by decide)]
  show (if wt + 1 + 0 > 16777216 then _ else _) = _
  rw [if_neg (by omega)]
  rfl
theorem b_next1 {pc i om'} (hw : wt ≤ 1000) : (stM code2 T s last pc pos handed om (fB 11 i om' :: fr) wt (some false) seen).step = stM code2 T s last 19 i i om' (fB 18 i om' :: fr) (wt - 1 + 1) none seen := by
  show (if wt - 1 + 1 + 0 > 16777216 then _ else _) = _
  rw [if_neg (by omega)]
  rfl
theorem b_next2 {pc i om'} (hw : wt ≤ 1000) : (stM code2 T s last pc pos handed om (fB 18 i om' :: fr) wt (some false) seen).step = stM code2 T s last 24 i i om' (fB 23 i om' :: fr) (wt - 1 + 1) none seen := by
  show (if wt - 1 + 1 + 0 > 16777216 then _ else _) = _
  rw [if_neg (by omega)]
  rfl
theorem b_not (hw : wt ≤ 1000) : (stM code2 T s last 26 pos handed om fr wt none seen).step = stM code2 T s last 29 pos pos false (fN pos om :: fr) (wt + 1) none (seen.add 5) := by
  rw [step_exec rfl rfl (show 26 < 36 by decide)]
  show (if wt + 1 + 0 > 16777216 then _ else _) = _
  rw [if_neg (by omega)]
  rfl
theorem b_jump16 : (stM code2 T s last 16 pos handed om fr wt none seen).step = stM code2 T s last 35 pos handed om fr wt none (seen.add 15) := by
  rw [step_exec rfl rfl (show 16 < 36 by decide)]; rfl
theorem b_jump21 : (stM code2 T s last 21 pos handed om fr wt none seen).step = stM code2 T s last 35 pos handed om fr wt none (seen.add 15) := by
  rw [step_exec rfl rfl (show 21 < 36 by decide)]; rfl
theorem b_jump32 : (stM code2 T s last 32 pos handed om fr wt none seen).step = stM code2 T s last 35 pos handed om fr wt none (seen.add 15) := by
  rw [step_exec rfl rfl (show 32 < 36 by decide)]; rfl
theorem b_succ : (stM code2 T s last 35 pos handed true fr wt none seen).step = stM code2 T s last 35 pos pos true fr wt (some true) (seen.add 1) := by
  rw [step_exec rfl rfl (show 35 < 36 by decide)]; rfl
theorem b_notback {pc i} : (stM code2 T s last pc pos handed om (fN i true :: fr) wt (some false) seen).step = stM code2 T s last 32 i handed true fr (wt - 1) none seen := rfl

/-- the end of any line: two signs or one -/
def nlLen (c d : Option Nat) : Nat := if c = some 13 ∧ d = some 10 then 2 else 1
theorem b_tail {i e : Nat} {w1 : Nat} (seen : Seen) : Ends (stM code2 T i last 35 e handed true [fB w1 i true, fS 10 i true] 2 none seen) (some (i, e)) 4 :=
  Ends.step rfl b_succ (Ends.step rfl yes_branch (Ends.step rfl yes_start say_yes))
theorem ends2 {i : Nat} (hi : i < T.size) (hc : T.getD i 0 = 10 ∨ T.getD i 0 = 13) (seen : Seen) :
    Ends (stM code2 T i last 10 i i true [fS 10 i true] 1 none seen) (some (i, i + if T.getD i 0 = 13 ∧ i + 1 < T.size ∧ T.getD (i + 1) 0 = 10 then 2 else 1)) 16 := by
  refine Ends.step rfl (b_branch (by decide)) ?_
  rcases hc with hc | hc
  · rw [if_neg (fun q => by rw [hc] at q; exact absurd q.1 (by decide))]
    refine Ends.step rfl (lit_f (pc := 12) rfl (by decide) (.inr (by rw [hc]; decide))) ?_
    refine Ends.step rfl (b_next1 (by decide)) ?_
    refine Ends.step rfl (lit_t (pc := 19) rfl (by decide) hi hc) ?_
    refine Ends.step rfl b_jump21 ?_
    exact (b_tail _).le (by decide)
  · by_cases h : i + 1 < T.size ∧ T.getD (i + 1) 0 = 10
    · rw [if_pos ⟨hc, h⟩]
      refine Ends.step rfl (lit_t (pc := 12) rfl (by decide) hi hc) ?_
      refine Ends.step rfl (lit_t (pc := 14) rfl (by decide) h.1 h.2) ?_
      refine Ends.step rfl b_jump16 ?_
      exact (b_tail _).le (by decide)
    · rw [if_neg (fun q => h q.2)]
      have h' : T.size ≤ i + 1 ∨ T.getD (i + 1) 0 ≠ 10 := by
        by_cases q : i + 1 < T.size
        · exact .inr fun z => h ⟨q, z⟩
        · exact .inl (Nat.not_lt.mp q)
      refine Ends.step rfl (lit_t (pc := 12) rfl (by decide) hi hc) ?_
      refine Ends.step rfl (lit_f (pc := 14) rfl (by decide) h') ?_
      refine Ends.step rfl (b_next1 (by decide)) ?_
      refine Ends.step rfl (lit_f (pc := 19) rfl (by decide) (.inr (by rw [hc]; decide))) ?_
      refine Ends.step rfl (b_next2 (by decide)) ?_
      refine Ends.step rfl (lit_t (pc := 24) rfl (by decide) hi hc) ?_
      refine Ends.step rfl (b_not (by decide)) ?_
      refine Ends.step rfl (lit_f (pc := 29) rfl (by decide) h') ?_
      refine Ends.step rfl b_notback ?_
      refine Ends.step rfl b_jump32 ?_
      exact (b_tail _).le (by decide)

/- the first sign that may begin a match -/
theorem inSet2 (c : Nat) (seen : Seen) : ∃ seen', inSet code2 c 36 5 true seen = .ok (decide (c = 10 ∨ c = 13), seen') := by
  have e : inSet code2 c 36 5 true seen = (if c == 10 then .ok (true, seen.add 16) else if c == 13 then .ok (true, (seen.add 16).add 16) else .ok (false, ((seen.add 16).add 16).add 0)) := rfl
  rw [e]
  by_cases h1 : c = 10
  · subst h1; exact ⟨_, rfl⟩
  · rw [if_neg (by simpa using h1)]
    by_cases h2 : c = 13
    · subst h2; exact ⟨_, rfl⟩
    · rw [if_neg (by simpa using h2), decide_eq_false (by omega)]; exact ⟨_, rfl⟩
def adm : List Nat → Nat → Option Nat
  | [], _ => none
  | c :: r, p => if c = 10 ∨ c = 13 then some p else adm r (p + 1)
theorem drop_cons {X : List Nat} {p c : Nat} {r : List Nat} (h : X.drop p = c :: r) : p < X.length ∧ X.toArray.getD p 0 = c ∧ X.drop (p + 1) = r := by
  have hl : p < X.length := by
    have := congrArg List.length h
    simp at this
    omega
  refine ⟨hl, ?_, ?_⟩
  · have : X[p]? = some c := by
      rw [← List.head?_drop, h]; rfl
    rw [Array.getD_eq_getD_getElem?]
    simp [this]
  · have : X.drop (p + 1) = (X.drop p).drop 1 := by rw [List.drop_drop]
    rw [this, h]; rfl
theorem admitted2 {X : List Nat} {m : M} (hc : m.code = code2) (hT : m.text = X.toArray) (hl : m.lim = X.length) : ∀ (L : List Nat) (p fuel : Nat) (seen : Seen), X.drop p = L → L.length < fuel → ∃ seen', M.admitted m fuel p seen = .ok (adm L p, seen')
  | [], p, 0, seen, _, hf => absurd hf (Nat.not_lt_zero _)
  | [], p, fuel + 1, seen, h, hf => by
    have : X.length ≤ p := by simpa using h
    unfold M.admitted
    rw [hl, if_pos this]
    exact ⟨_, rfl⟩
  | c :: r, p, 0, seen, _, hf => absurd hf (Nat.not_lt_zero _)
  | c :: r, p, fuel + 1, seen, h, hf => by
    obtain ⟨h1, h2, h3⟩ := drop_cons h
    unfold M.admitted
    rw [hl, if_neg (Nat.not_le.mpr h1), hc, hT, h2]
    obtain ⟨seen', e⟩ := inSet2 c seen
    have e' : inSet code2 c code2.size 5 true seen = .ok (decide (c = 10 ∨ c = 13), seen') := e
    rw [e']
    by_cases hd : c = 10 ∨ c = 13
    · rw [decide_eq_true hd]
      exact ⟨seen', by rw [adm, if_pos hd]⟩
    · rw [decide_eq_false hd, adm, if_neg hd]
      exact admitted2 hc hT hl r (p + 1) fuel seen' h3 (by simpa using hf)

abbrev seen0 : Seen := ({} : Seen).add 14
theorem start2 (X : List Nat) (p : Nat) : forSearch code2 X.toArray 0 p X.toArray.size false =
    if (decide (p > X.toArray.size) || decide (X.toArray.size - p < 1)) = true then stM code2 X.toArray p 0 10 p p true [] 0 (some false) seen0
    else (stM code2 X.toArray p X.toArray.size 10 p p true [] 0 none seen0).attemptFrom p true := rfl
/-- what a search finds -/
def find2 (X : List Nat) (p : Nat) : Option (Nat × Nat) := (adm (X.drop p) p).map fun i => (i, i + if X.toArray.getD i 0 = 13 ∧ i + 1 < X.length ∧ X.toArray.getD (i + 1) 0 = 10 then 2 else 1)
theorem adm_hit : ∀ {L : List Nat} {p i : Nat} {X : List Nat}, X.drop p = L → adm L p = some i → p ≤ i ∧ i < X.length ∧ (X.toArray.getD i 0 = 10 ∨ X.toArray.getD i 0 = 13)
  | [], _, _, _, _, h => by cases h
  | c :: r, p, i, X, hL, h => by
    obtain ⟨h1, h2, h3⟩ := drop_cons hL
    rw [adm] at h
    split at h
    · rename_i hc
      cases h
      exact ⟨Nat.le_refl _, h1, by rw [h2]; exact hc⟩
    · obtain ⟨a, b, c⟩ := adm_hit h3 h
      exact ⟨by omega, b, c⟩
theorem search2 (X : List Nat) (p : Nat) (hp : p ≤ X.length) : Ends (forSearch code2 X.toArray 0 p X.toArray.size false) (find2 X p) 20 := by
  rw [start2]
  have hsz : X.toArray.size = X.length := by simp
  by_cases h : p = X.length
  · have hd : X.drop p = [] := List.drop_eq_nil_of_le (by omega)
    have hf : find2 X p = none := by unfold find2; rw [hd]; rfl
    rw [if_pos (by rw [hsz, h]; simp), hf]
    exact say_no.le (by decide)
  · rw [if_neg (by rw [hsz]; simp; omega)]
    unfold M.attemptFrom
    show Ends (match M.admitted (stM code2 X.toArray p X.toArray.size 10 p p true [] 0 none seen0) (X.toArray.size + 1 - p) p seen0 with
      | .ok (some s, seen) => _ | .ok (none, seen) => _ | .error why => _) _ _
    obtain ⟨seen', e⟩ := admitted2 (X := X) (m := stM code2 X.toArray p X.toArray.size 10 p p true [] 0 none seen0) rfl rfl (by simp [stM]) (X.drop p) p (X.toArray.size + 1 - p) seen0 rfl (by rw [hsz, List.length_drop]; omega)
    rw [e]
    unfold find2
    cases ha : adm (X.drop p) p with
    | none => exact (say_no (c := code2) (T := X.toArray) (s := p) (last := X.toArray.size) (pc := 10) (pos := p) (handed := p) (om := true) (wt := 0) (seen := seen')).le (by decide)
    | some i =>
      obtain ⟨h1, h2, h3⟩ := adm_hit rfl ha
      have := ends2 (T := X.toArray) (last := X.toArray.size) (i := i) (by rw [hsz]; exact h2) h3 seen'
      rw [hsz] at this
      exact this.le (by decide)
end
end Mine
end
section
open PySem PySem.Sre
set_option maxRecDepth 100000
namespace Mine
section
variable {T : Array Nat} {s last handed pos : Nat} {om : Bool} {fr : List Sre.Frame} {wt : Nat} {seen : Seen}
theorem a_at : (stM code1 T s last 5 pos handed om fr wt none seen).step =
    if (pos == 0 || T.getD (pos - 1) 0 == 10) = true then stM code1 T s last 7 pos handed om fr wt none ((seen.add 6).add 44) else stM code1 T s last 5 pos handed om fr wt (some false) ((seen.add 6).add 44) := by
  rw [step_exec rfl rfl (show 5 < 10 by decide)]; rfl
theorem a_succ : (stM code1 T s last 9 pos handed om fr wt none seen).step = stM code1 T s last 9 pos pos om fr wt (some true) (seen.add 1) := by
  rw [step_exec rfl rfl (show 9 < 10 by decide)]
  cases om <;> rfl
theorem a_retry {pc i om'} (hi : i < last) (hw : wt ≤ 1000) : (stM code1 T s last pc pos handed om [fS 5 i om'] wt (some false) seen).step = stM code1 T (i + 1) last 5 (i + 1) (i + 1) false [fS 5 (i + 1) false] (wt - 1 + 1) none seen := by
  show (if i < last then _ else _) = _
  rw [if_pos hi]
  show (if wt - 1 + 1 + 0 > 16777216 then _ else _) = _
  rw [if_neg (by omega)]
  rfl
theorem a_end {pc i om'} (hi : ¬ i < last) : (stM code1 T s last pc pos handed om [fS 5 i om'] wt (some false) seen).step = stM code1 T s last 5 i handed om' [] (wt - 1) (some false) seen := by
  show (if i < last then _ else _) = _
  rw [if_neg hi]
  rfl
def f1 : Bool → List Nat → Nat → Option Nat
  | _, [], _ => none
  | bol, c :: r, i => if bol = true ∧ c = 46 then some i else f1 (c == 10) r (i + 1)
theorem ends1 (X : List Nat) : ∀ (L : List Nat) (i : Nat) (bol om : Bool) (seen : Seen), X.drop i = L → i ≤ X.length → (i == 0 || X.toArray.getD (i - 1) 0 == 10) = bol →
    Ends (stM code1 X.toArray i X.length 5 i i om [fS 5 i om] 1 none seen) ((f1 bol L i).map fun j => (j, j + 1)) (6 * L.length + 6)
  | [], i, bol, om, seen, hL, hi, hb => by
    have h1 : X.length ≤ i := by simpa using hL
    have fin : ∀ seen' pc, Ends (stM code1 X.toArray i X.length pc i i om [fS 5 i om] 1 (some false) seen') none 2 := fun seen' pc => Ends.step rfl (a_end (by omega)) say_no
    refine Ends.step rfl a_at ?_
    rw [hb]
    cases bol with
    | false =>
      rw [if_neg Bool.false_ne_true]
      exact (fin _ _).le (by simp)
    | true =>
      rw [if_pos rfl]
      exact (Ends.step rfl (lit_f (pc := 7) rfl (by decide) (.inl (by simpa using h1))) (fin _ _)).le (by simp)
  | c :: r, i, bol, om, seen, hL, hi, hb => by
    obtain ⟨h1, h2, h3⟩ := drop_cons hL
    have again : ∀ seen' pc, Ends (stM code1 X.toArray i X.length pc i i om [fS 5 i om] 1 (some false) seen') ((f1 (c == 10) r (i + 1)).map fun j => (j, j + 1)) (6 * r.length + 7) := fun seen' pc =>
      Ends.step rfl (a_retry h1 (by decide)) (ends1 X r (i + 1) (c == 10) false seen' h3 h1 (by
        have : i + 1 - 1 = i := rfl
        rw [this, h2]; simp))
    refine Ends.step rfl a_at ?_
    rw [hb]
    cases bol with
    | false =>
      rw [if_neg Bool.false_ne_true, f1, if_neg (fun q => Bool.false_ne_true q.1)]
      exact (again _ _).le (by simp; omega)
    | true =>
      rw [if_pos rfl, f1]
      by_cases hc : c = 46
      · rw [if_pos ⟨rfl, hc⟩]
        refine Ends.le (Ends.step rfl (lit_t (pc := 7) rfl (by decide) (by simpa using h1) (by rw [h2, hc]; rfl)) (Ends.step rfl a_succ (Ends.step rfl yes_start say_yes))) (by simp)
      · rw [if_neg (fun q => hc q.2)]
        exact (Ends.step rfl (lit_f (pc := 7) rfl (by decide) (.inr (by rw [h2]; exact hc))) (again _ _)).le (by simp; omega)
theorem start1 (X : List Nat) (p : Nat) : forSearch code1 X.toArray 0 p X.toArray.size false =
    if (decide (p > X.toArray.size) || decide (X.toArray.size - p < 1)) = true then stM code1 X.toArray p 0 5 p p true [] 0 (some false) seen0
    else (stM code1 X.toArray p X.toArray.size 5 p p true [] 0 none seen0).attemptFrom p true := rfl
def find1 (X : List Nat) (p : Nat) : Option (Nat × Nat) := (f1 (p == 0 || X.toArray.getD (p - 1) 0 == 10) (X.drop p) p).map fun j => (j, j + 1)
theorem search1 (X : List Nat) (p : Nat) (hp : p ≤ X.length) : Ends (forSearch code1 X.toArray 0 p X.toArray.size false) (find1 X p) (6 * X.length + 20) := by
  rw [start1]
  have hsz : X.toArray.size = X.length := by simp
  by_cases h : p = X.length
  · have hd : X.drop p = [] := List.drop_eq_nil_of_le (by omega)
    have hf : find1 X p = none := by unfold find1; rw [hd]; rfl
    rw [if_pos (by rw [hsz, h]; simp), hf]
    exact say_no.le (by omega)
  · rw [if_neg (by rw [hsz]; simp; omega)]
    have e : (stM code1 X.toArray p X.toArray.size 5 p p true [] 0 none seen0).attemptFrom p true = stM code1 X.toArray p X.length 5 p p true [fS 5 p true] 1 none seen0 := by
      have e1 : (stM code1 X.toArray p X.toArray.size 5 p p true [] 0 none seen0).hasFirstSet = false := rfl
      unfold M.attemptFrom
      rw [e1]
      show M.attemptAt _ p true = _
      unfold M.attemptAt M.attempt
      refine (if_neg (show ¬ (0 + 1 + 0 > 16777216) by decide)).trans ?_
      rw [← hsz]
      rfl
    rw [e]
    exact (ends1 X (X.drop p) p _ true seen0 rfl hp rfl).le (by rw [List.length_drop]; omega)
end

/- the machine's drive -/
theorem runFor_done {m : M} (h : m.outcome.isSome = true) : ∀ n, M.runFor n m = m
  | 0 => rfl
  | n + 1 => by show (if m.outcome.isSome = true then m else _) = m; rw [if_pos h]
theorem runFor_add : ∀ (a b : Nat) (m : M), M.runFor (a + b) m = M.runFor b (M.runFor a m)
  | 0, b, m => by rw [Nat.zero_add]; rfl
  | a + 1, b, m => by
    have e : a + 1 + b = (a + b) + 1 := by omega
    rw [e]
    show (if m.outcome.isSome = true then m else M.runFor (a + b) m.step) = M.runFor b (if m.outcome.isSome = true then m else M.runFor a m.step)
    by_cases h : m.outcome.isSome = true
    · rw [if_pos h, if_pos h, runFor_done h]
    · rw [if_neg h, if_neg h, runFor_add a b m.step]
section
variable {prog : Program} {w : World} {A : Around} {E : Value → Shared → Prop} {s : Shared}
open PySem.Builtin.Re
theorem drive_ends : ∀ (t : Nat) (m : M) {Q : M → Shared → Prop}, (M.runFor (4 * (t + 1)) m).outcome.isSome = true → Q (M.runFor (4 * (t + 1)) m) s → wpAny (model prog w) A (reDrive (t + 1) m) Q E s
  | t, m, Q, h, hq => by
    have e : M.runFor (4 * (t + 1)) m = M.runFor (4 * t) (M.runFor 4 m) := by
      have : 4 * (t + 1) = 4 + 4 * t := by omega
      rw [this, runFor_add]
    unfold reDrive
    show wpAny _ A (if (M.runFor 4 m).outcome.isSome = true then pure (M.runFor 4 m) else do rule "sre.turn"; reDrive t (M.runFor 4 m)) Q E s
    by_cases h4 : (M.runFor 4 m).outcome.isSome = true
    · rw [if_pos h4]
      rw [e, runFor_done h4] at hq
      exact wpAny_pure hq
    · rw [if_neg h4]
      refine wpAny_bind (wpAny_rule ?_)
      cases t with
      | zero => exact absurd h h4
      | succ t =>
        rw [e] at h hq
        exact drive_ends t (M.runFor 4 m) h hq
theorem drive_big {m : M} {Q : M → Shared → Prop} {N : Nat} (hN : N ≤ 1000000) (h : (M.runFor N m).outcome.isSome = true) (hq : Q (M.runFor N m) s) : wpAny (model prog w) A (reDrive (2 ^ 64) m) Q E s := by
  have e : (2 : Nat) ^ 64 = 18446744073709551615 + 1 := by decide
  have e2 : M.runFor (4 * (18446744073709551615 + 1)) m = M.runFor N m := by
    have : 4 * (18446744073709551615 + 1) = N + (4 * (18446744073709551615 + 1) - N) := by omega
    rw [this, runFor_add, runFor_done h]
  rw [e]
  exact drive_ends _ m (by rw [e2]; exact h) (by rw [e2]; exact hq)
theorem rules_only {l : List Nat} {f : Nat → Bool} {g : Nat → String} {Q : PUnit → Shared → Prop} (h : Q PUnit.unit s) :
    wpAny (model prog w) A (forIn l PUnit.unit fun i _ => if f i = true then (do rule (g i); pure (ForInStep.yield PUnit.unit)) else pure (ForInStep.yield PUnit.unit)) Q E s := by
  induction l with
  | nil => exact wpAny_pure h
  | cons i l ih =>
    rw [List.forIn_cons]
    refine wpAny_bind ?_
    by_cases hf : f i = true
    · rw [if_pos hf]
      exact wpAny_bind (wpAny_rule (wpAny_pure ih))
    · rw [if_neg hf]
      exact wpAny_pure ih
theorem run_some {m : M} {a b : Nat} {B : Nat} (hB : B ≤ 1000000) (he : Ends m (some (a, b)) B) {Q : Option M → Shared → Prop}
    (hQ : ∀ m', m'.start = a → m'.handed = b → Q (some m') s) : wpAny (model prog w) A (reRunToEnd m) Q E s := by
  obtain ⟨N, hN, h1, h2, h3⟩ := he
  unfold reRunToEnd
  refine wpAny_bind (drive_big (N := N) (by omega) (by rw [h1]; rfl) ?_)
  refine wpAny_bind (rules_only ?_)
  rw [h1]
  exact wpAny_pure (hQ _ h2 h3)
theorem run_none {m : M} {B : Nat} (hB : B ≤ 1000000) (he : Ends m none B) {Q : Option M → Shared → Prop} (hQ : Q none s) : wpAny (model prog w) A (reRunToEnd m) Q E s := by
  obtain ⟨N, hN, h1⟩ := he
  have h1 : (M.runFor N m).outcome = some .failed := h1
  unfold reRunToEnd
  refine wpAny_bind (drive_big (N := N) (by omega) (by rw [h1]; rfl) ?_)
  refine wpAny_bind (rules_only ?_)
  rw [h1]
  exact wpAny_pure hQ
end
end Mine
end
section
open PySem PySem.W PyProof.Rows PySem.Calls PySem.Spec
open PySem.Builtin PySem.Builtin.Re
set_option maxRecDepth 100000
namespace Mine
structure IsPat (h : Heap) (p : Addr) (code : Array Nat) : Prop where
  ex : ∃ (fv : Array Value) (ct : Addr) (t2 t6 : Tok) (o5 : Obj) (its : Array Value) (n5 : Nat), h.get? p = some { cls := .type "re.Pattern", dict := none, data := .fields fv, slots := #[] } ∧
    fv.getD 2 .none = .int 0 t2 ∧ fv.getD 6 .none = .int 0 t6 ∧ fv.getD 5 .none = .ref ct ∧ h.get? ct = some o5 ∧ o5.cls = .type "tuple" ∧ o5.data = .seq its n5 ∧ (its.map reRawOf).map (fun x => x.toNat) = code
theorem IsPat.keep {h h' : Heap} {p : Addr} {code : Array Nat} (i : IsPat h p code) (k : ∀ b o, h.get? b = some o → h'.get? b = some o) : IsPat h' p code := by
  obtain ⟨fv, ct, t2, t6, o5, its, n5, h1, h2, h3, h4, h5, h6⟩ := i.ex
  exact ⟨fv, ct, t2, t6, o5, its, n5, k _ _ h1, h2, h3, h4, k _ _ h5, h6⟩

section
variable {M : Model} {A : Around} {E : Value → Shared → Prop} {s : Shared}
theorem raw_items {a : Addr} {o : Obj} {its : Array Value} {n : Nat} (ho : s.heap.get? a = some o) (hd : o.data = .seq its n) {Q : Array Int → Shared → Prop} (h : Q (its.map reRawOf) s) : wpAny M A (reRawItems (.ref a)) Q E s := by
  unfold reRawItems
  exact wpAny_bind (wpAny_seqItems ho hd (wpAny_pure h))
theorem whole_target {p : Addr} {code : Array Nat} (hp : IsPat s.heap p code) {x : Str} {t : Tok} {Q : ReTarget → Shared → Prop} (hQ : Q { pattern := .ref p, string := .str x t, code, text := x.cps, kind := 0, groups := 0, pos := 0, lim := x.cps.size } s) :
    wpAny M A (reWholeTarget (.ref p) (.str x t)) Q E s := by
  obtain ⟨fv, ct, t2, t6, o5, its, n5, h1, h2, h3, h4, h5, _, h6, h7⟩ := hp.ex
  unfold reWholeTarget
  refine wpAny_bind (wpAny_fieldsOf h1 rfl ?_)
  refine wpAny_bind (wpAny_of_eq (show reTextOf (.str x t) = pure (x.cps, 0) from rfl) ?_)
  dsimp only
  rw [h3, h2, h4]
  refine wpAny_bind (wpAny_of_eq (show reNoCollectionInside (.str x t) 0 = pure () from rfl) ?_)
  refine wpAny_bind (raw_items h5 h6 ?_)
  rw [h7]
  exact wpAny_pure hQ
theorem slice_ {text : Array Nat} {b e : Nat} (hsz : (text.extract b e).size ≤ sizeLine) {Q : Value → Shared → Prop} (h : Q (.str ⟨text.extract b e⟩ s.toks) { s with toks := s.toks + 1 }) : wpAny M A (reSlice text 0 b e) Q E s :=
  wpAny_mkStr h hsz
end

theorem plain_sub_loop : plainId "re.Pattern.sub.loop" = true := by decide +kernel
theorem entry_sub_loop : entryFor table "re.Pattern.sub.loop" = some Builtin.«re.Pattern.sub.loop» := entryFor_of_tree (by kernel_rfl)
theorem entry_sub : entryFor table "re.Pattern.sub" = some Builtin.«re.Pattern.sub» := entryFor_of_tree (by kernel_rfl)
theorem entry_search : entryFor table "re.Pattern.search" = some Builtin.«re.Pattern.search» := entryFor_of_tree (by kernel_rfl)
theorem slot_sub : Slot "re.Pattern" (Str.ofString "sub") "re.Pattern.sub" :=
  .of (owner := "re.Pattern") (n := "sub") (by rw [typeLookup_type, builtinLookup_eq_fast]; kernel_rfl) (by decide +kernel) (by decide +kernel) (by decide +kernel)
    (by first | exact .inl (by decide +kernel) | exact .inr (by decide +kernel)) (by rw [isSubtype_type]; kernel_rfl)
theorem slot_search : Slot "re.Pattern" (Str.ofString "search") "re.Pattern.search" :=
  .of (owner := "re.Pattern") (n := "search") (by rw [typeLookup_type, builtinLookup_eq_fast]; kernel_rfl) (by decide +kernel) (by decide +kernel) (by decide +kernel)
    (by first | exact .inl (by decide +kernel) | exact .inr (by decide +kernel)) (by rw [isSubtype_type]; kernel_rfl)
theorem type_sub : typeOf (.builtin "re.Pattern.sub") = pure (.type "method_descriptor") := by show builtinType _ = _; rw [builtinType_eq_fast]; kernel_rfl
theorem type_search : typeOf (.builtin "re.Pattern.search") = pure (.type "method_descriptor") := by show builtinType _ = _; rw [builtinType_eq_fast]; kernel_rfl
theorem args_sub (a b c : Value) : argsOk "re.Pattern.sub" ⟨[a, b, c], []⟩ := by
  unfold argsOk; kernel_rfl
theorem args_search (a b : Value) : argsOk "re.Pattern.search" ⟨[a, b], []⟩ := by
  unfold argsOk; kernel_rfl
theorem plainAttrs_pat : PlainAttrs "re.Pattern" :=
  ⟨⟨"object.__getattribute__", by rw [typeLookup_type, builtinLookup_eq_fast]; kernel_rfl, by decide +kernel⟩, by rw [typeLookup_type, builtinLookup_eq_fast]; kernel_rfl⟩

/-- what a substitution writes -/
def subF (F : Nat → Option (Nat × Nat)) (X r : List Nat) : Nat → Nat → List Nat
  | 0, _ => []
  | n + 1, p => match F p with
    | none => X.drop p
    | some (a, b) => (X.drop p).take (a - p) ++ r ++ subF F X r n b

abbrev strVs (l : List (Str × Tok)) : Array Value := (strValues l).toArray
theorem extract_sOf (X : List Nat) (a b : Nat) : (X.toArray.extract a b) = ((X.drop a).take (b - a)).toArray := by
  apply Array.toList_inj.mp
  simp
theorem join_empty (pieces : List (List Nat)) : joinR [] pieces = pieces.flatten := by
  induction pieces with
  | nil => rfl
  | cons x r ih =>
    cases r with
    | nil => simp [joinR]
    | cons y r =>
      show appR x (appR [] (joinR [] (y :: r))) = _
      rw [appR_eq, appR_eq, ih]; simp

section
variable {prog : Program} {w : World}
theorem sub_loop {p L : Addr} {code : Array Nat} {X r : List Nat} {F : Nat → Option (Nat × Nat)} {B : Nat} {t u : Tok} (hB : B ≤ 1000000) (hX : X.length ≤ 400) (hr : r.length ≤ 400)
    (hends : ∀ q, q ≤ X.length → Ends (Sre.forSearch code X.toArray 0 q X.toArray.size false) (F q) B) (hF : ∀ q a b, F q = some (a, b) → q ≤ a ∧ a < b ∧ b ≤ X.length) :
    ∀ (fuel : Nat) (n : Int) (start : Nat) (l : List (Str × Tok)) (pieces : List (List Nat)) (nn : Nat), X.length - start < fuel → start ≤ X.length → l.map (·.1) = pieces.map sOf → (∀ y ∈ pieces, y.length ≤ 400) → pieces.length ≤ 2 * start →
    ∀ (A : Around) (R : Result → Shared → Prop) (s : Shared), IsPat s.heap p code → s.heap.get? L = some (W.listOf (strVs l) nn) →
      (∀ h' tk t', Heap.SameBut L s.heap h' → R (.ok (.ret (.str (sOf (pieces.flatten ++ subF F X r fuel start)) t'))) { s with heap := h', toks := tk }) →
      wpAny (model prog w) A.in1 (Builtin.«re.Pattern.sub.loop» ⟨[.ref p, .str (sOf X) t, .str (sOf r) u, rawInt 0, rawInt 0, rawInt n, rawInt start, rawInt start, .bool false, .ref L, .bool false], []⟩)
        (fun fin s' => match fin with | .done f => R (.ok f) s' | .again c' => c'.quiet = true ∧ codeAny (model prog w) A c' R s') (fun e s' => R (.error e) s') s := by
  intro fuel
  induction fuel with
  | zero => intro n start l pieces nn h; exact absurd h (Nat.not_lt_zero _)
  | succ fuel ih =>
    intro n start l pieces nn hfuel hst hl hpl hpn A R s hp hL hR
    have big : 1000000 ≤ sizeLine := by decide
    have hlen : l.length = pieces.length := by have := congrArg List.length hl; simpa using this
    have hpL : p ≠ L := by
      rintro rfl
      obtain ⟨fv, ct, t2, t6, o5, its, n5, h1, _⟩ := hp.ex
      rw [h1] at hL
      have := congrArg Obj.cls (Option.some.inj hL)
      have h9 : Value.type "re.Pattern" = Value.type "list" := this
      injection h9 with h9
      exact absurd h9 (by decide)
    have hszL : (strVs l).size = pieces.length := by show (strValues l).toArray.size = _; rw [List.size_toArray, ← hlen]; simp [strValues]
    unfold Builtin.«re.Pattern.sub.loop»
    refine wpAny_bind (whole_target hp ?_)
    dsimp only
    refine wpAny_bind (wpAny_of_eq (show reLiteralCannotBeTurned (.str (sOf r) u) = pure () from rfl) ?_)
    have hsearch : (start : Int).toNat = start := Int.toNat_natCast _
    rw [hsearch]
    have he := hends start hst
    have hszX : X.toArray.size = X.length := by simp
    -- a piece more
    have push : ∀ (s₁ : Shared) (l₁ : List (Str × Tok)) (n₁ : Nat) (v : Str) (tv : Tok) (E : Value → Shared → Prop) (Q : Unit → Shared → Prop), l₁.length ≤ 10000 → s₁.heap.get? L = some (W.listOf (strVs l₁) n₁) →
        (∀ h', Heap.SameBut L s₁.heap h' → h'.get? L = some (W.listOf (strVs (l₁ ++ [(v, tv)])) (n₁ + 1)) → Q () { s₁ with heap := h' }) → wpAny (model prog w) A.in1 (updateSeq L fun x => x.push (.str v tv)) Q E s₁ := by
      intro s₁ l₁ n₁ v tv E Q hl₁ ho hq
      have hz : (strVs l₁).size ≤ 10000 := by show (strValues l₁).toArray.size ≤ _; rw [List.size_toArray]; simpa [strValues] using hl₁
      refine wpAny_updateSeq ho rfl (hq _ (Heap.SameBut.update ..) ?_) (by omega) (by rw [Array.size_push]; omega)
      rw [Heap.get?_update_self _ ho rfl]
      simp [Obj.mapSeq, strValues]
    cases hf : F start with
    | none =>
      rw [hf] at he
      refine wpAny_bind (m := reNextFound _ _ _) (run_none hB he ?_)
      dsimp only
      have hsub : subF F X r (fuel + 1) start = X.drop start := by rw [subF, hf]
      -- the end
      have fin : ∀ (s₁ : Shared) (l₁ : List (Str × Tok)) (n₁ : Nat) (pieces₁ : List (List Nat)), s₁.heap.get? L = some (W.listOf (strVs l₁) n₁) → l₁.map (·.1) = pieces₁.map sOf → (∀ y ∈ pieces₁, y.length ≤ 400) → pieces₁.length ≤ 1000 →
          pieces₁.flatten = pieces.flatten ++ X.drop start → (∀ tk, { s₁ with toks := tk } = { s with heap := s₁.heap, toks := tk }) → Heap.SameBut L s.heap s₁.heap →
          wpAny (model prog w) A.in1 (do
            let joiner ← reSlice X.toArray 0 0 0
            let x ← seqItems? (.ref L)
            if (x.getD #[]).isEmpty = true then do
              let text ← pure joiner
              ret text
            else do
              let text ← call (.builtin (if (0 == 0) = true then "str.join" else "bytes.join")) [joiner, .ref L]
              ret text)
            (fun fin s' => match fin with | .done f => R (.ok f) s' | .again c' => c'.quiet = true ∧ codeAny (model prog w) A c' R s') (fun e s' => R (.error e) s') s₁ := by
        intro s₁ l₁ n₁ pieces₁ ho hl₁ hs₁ hn₁ hfl hrec hsb
        have hlen₁ : l₁.length = pieces₁.length := by have := congrArg List.length hl₁; simpa using this
        refine wpAny_bind (slice_ (by simp) ?_)
        refine wpAny_bind (wpAny_seqItems ho rfl ?_)
        have hem : (⟨X.toArray.extract 0 0⟩ : Str) = sOf [] := by simp
        by_cases he0 : (((some (strVs l₁)).getD #[]).isEmpty) = true
        · refine (wpAny_ite_true (decide_eq_true he0) ?_)
          have hp0 : pieces₁ = [] := by
            have : (strVs l₁).size = 0 := by simpa using he0
            have h2 : l₁.length = 0 := by simpa [strValues] using this
            exact List.eq_nil_of_length_eq_zero (by omega)
          subst hp0
          refine wpAny_bind (wpAny_pure (wpAny_pure ?_))
          have := hR s₁.heap (s₁.toks + 1) s₁.toks hsb
          rw [hsub, ← hfl] at this
          rw [hem]
          show R _ _
          rw [hrec]
          exact this
        · refine (wpAny_ite_false (decide_eq_false he0) ?_)
          refine wpAny_bind (SC.join (D := L) (l := l₁) (texts := pieces₁.map sOf) ⟨_, ho, rfl, _, rfl⟩ hl₁ ?_ fun t' k => ?_)
          · unfold JoinOk
            have := StrLaws.joinFits (sep := ⟨X.toArray.extract 0 0⟩) (texts := pieces₁.map sOf) (B := 1000) (fun y hy' => by
              obtain ⟨z, hz, rfl⟩ := List.mem_map.mp hy'
              rw [len_sOf]
              exact Nat.le_trans (hs₁ z hz) (by decide)) (by
              rw [List.length_map]
              have q0 : Str.length ⟨X.toArray.extract 0 0⟩ = 0 := by simp [Str.length]
              rw [q0]
              omega)
            rw [this]; rfl
          · refine wpAny_pure ?_
            have e3 : Txt.join ⟨X.toArray.extract 0 0⟩ (pieces₁.map sOf) = sOf (pieces₁.flatten) := by
              rw [hem, ← join_empty]
              exact (StrLaws.glued_eq_join _ _).trans (joinR_eq _ _)
            rw [e3, hfl]
            have := hR s₁.heap k t' hsb
            rw [hsub] at this
            show R _ _
            rw [hrec]
            exact this
      by_cases hd : start < X.length
      · refine wpAny_ite_true (by simpa using hd) ?_
        refine wpAny_bind (slice_ (by simp; omega) ?_)
        refine wpAny_bind (push { s with toks := s.toks + 1 } l nn _ s.toks _ _ (by omega) hL fun h' hsb ho => ?_)
        refine fin { s with heap := h', toks := s.toks + 1 } (l ++ [(⟨X.toArray.extract start X.toArray.size⟩, s.toks)]) (nn + 1) (pieces ++ [X.drop start]) ho ?_ ?_ ?_ ?_ (fun _ => rfl) hsb
        · rw [List.map_append, List.map_append, hl, List.map_cons, List.map_nil, extract_sOf, List.take_of_length_le (by simp)]
          rfl
        · intro y hy
          rcases List.mem_append.mp hy with h1 | h1
          · exact hpl y h1
          · rw [List.mem_singleton.mp h1, List.length_drop]; omega
        · rw [List.length_append]; simp; omega
        · simp
      · refine wpAny_ite_false (by simpa using hd) ?_
        refine fin s l nn pieces hL hl hpl (by omega) ?_ (fun _ => rfl) (Heap.SameBut.refl ..)
        rw [List.drop_eq_nil_of_le (by omega), List.append_nil]
    | some ab =>
      obtain ⟨a, b⟩ := ab
      rw [hf] at he
      obtain ⟨h1, h2, h3⟩ := hF _ _ _ hf
      refine wpAny_bind (m := reNextFound _ _ _) (run_some hB he fun m' ha hb => ?_)
      dsimp only
      rw [ha, hb]
      have hmust : (b == a) = false := by simp; omega
      rw [hmust]
      have hsub : subF F X r (fuel + 1) start = (X.drop start).take (a - start) ++ r ++ subF F X r fuel b := by rw [subF, hf]
      -- the rest of the turn
      have rest : ∀ (s₁ : Shared) (l₁ : List (Str × Tok)) (n₁ : Nat) (pieces₁ : List (List Nat)), s₁.heap.get? L = some (W.listOf (strVs l₁) n₁) → l₁.map (·.1) = pieces₁.map sOf → (∀ y ∈ pieces₁, y.length ≤ 400) → pieces₁.length ≤ 2 * start + 1 →
          pieces₁.flatten = pieces.flatten ++ (X.drop start).take (a - start) → (∀ h tk, { s₁ with heap := h, toks := tk } = { s with heap := h, toks := tk }) → Heap.SameBut L s.heap s₁.heap →
          wpAny (model prog w) A.in1 (do
            let item ← pure (Value.str (sOf r) u)
            if (item != Value.none) = true then do
              updateSeq L fun x => x.push item
              again (Code.builtin "re.Pattern.sub.loop" { pos := [Value.ref p, Value.str (sOf X) t, Value.str (sOf r) u, rawInt 0, rawInt 0, rawInt (n + 1), rawInt b, rawInt b, Value.bool false, Value.ref L, Value.bool false] })
            else
              again (Code.builtin "re.Pattern.sub.loop" { pos := [Value.ref p, Value.str (sOf X) t, Value.str (sOf r) u, rawInt 0, rawInt 0, rawInt (n + 1), rawInt b, rawInt b, Value.bool false, Value.ref L, Value.bool false] }))
            (fun fin s' => match fin with | .done f => R (.ok f) s' | .again c' => c'.quiet = true ∧ codeAny (model prog w) A c' R s') (fun e s' => R (.error e) s') s₁ := by
        intro s₁ l₁ n₁ pieces₁ ho hl₁ hs₁ hn₁ hfl hrec hsb
        have hlen₁ : l₁.length = pieces₁.length := by have := congrArg List.length hl₁; simpa using this
        refine wpAny_bind (wpAny_pure ?_)
        refine wpAny_ite_true rfl ?_
        refine wpAny_bind (push s₁ l₁ n₁ (sOf r) u _ _ (by omega) ho fun h' hsb' ho' => ?_)
        refine wpAny_pure ⟨plainId_quiet plain_sub_loop _, codeAny_builtin entry_sub_loop ?_⟩
        rw [Around.under_plainId plain_sub_loop _]
        refine ih (n + 1) b (l₁ ++ [(sOf r, u)]) (pieces₁ ++ [r]) (n₁ + 1) (by omega) h3 ?_ ?_ ?_ A R { s₁ with heap := h' } ?_ ho' ?_
        · rw [List.map_append, List.map_append, hl₁]; rfl
        · intro y hy
          rcases List.mem_append.mp hy with q | q
          · exact hs₁ y q
          · rw [List.mem_singleton.mp q]; exact hr
        · rw [List.length_append]; simp; omega
        · have hsb2 : Heap.SameBut L s.heap h' := hsb.trans hsb'
          obtain ⟨fv, ct, t2, t6, o5, its, n5, g1, g2, g3, g4, g5, g6, g7⟩ := hp.ex
          have hctL : ct ≠ L := by
            rintro rfl
            rw [hL] at g5
            have := congrArg Obj.cls (Option.some.inj g5)
            rw [g6] at this
            have h9 : Value.type "list" = Value.type "tuple" := this
            injection h9 with h9
            exact absurd h9 (by decide)
          exact ⟨fv, ct, t2, t6, o5, its, n5, (hsb2.2 _ hpL).trans g1, g2, g3, g4, (hsb2.2 _ hctL).trans g5, g6, g7⟩
        · intro h'' tk t' hsb3
          have := hR h'' tk t' ((hsb.trans hsb').trans hsb3)
          rw [hsub] at this
          have e4 : (pieces₁ ++ [r]).flatten ++ subF F X r fuel b = pieces.flatten ++ ((X.drop start).take (a - start) ++ r ++ subF F X r fuel b) := by
            rw [List.flatten_append, hfl]; simp
          rw [e4]
          show R _ _
          have e5 : ({ s₁ with heap := h'', toks := tk } : Shared) = { s with heap := h'', toks := tk } := hrec _ _
          exact e5 ▸ this
      by_cases hd : start < a
      · refine wpAny_ite_true (by simpa using hd) ?_
        refine wpAny_bind (slice_ (by simp; omega) ?_)
        refine wpAny_bind (push { s with toks := s.toks + 1 } l nn _ s.toks _ _ (by omega) hL fun h' hsb ho => ?_)
        refine rest { s with heap := h', toks := s.toks + 1 } (l ++ [(⟨X.toArray.extract start a⟩, s.toks)]) (nn + 1) (pieces ++ [(X.drop start).take (a - start)]) ho ?_ ?_ ?_ ?_ (fun _ _ => rfl) hsb
        · rw [List.map_append, List.map_append, hl, List.map_cons, List.map_nil, extract_sOf]
          rfl
        · intro y hy
          rcases List.mem_append.mp hy with h1 | h1
          · exact hpl y h1
          · rw [List.mem_singleton.mp h1, List.length_take, List.length_drop]; omega
        · rw [List.length_append]; simp; omega
        · simp
      · refine wpAny_ite_false (by simpa using hd) ?_
        refine rest s l nn pieces hL hl hpl (by omega) ?_ (fun _ _ => rfl) (Heap.SameBut.refl ..)
        have : a - start = 0 := by omega
        rw [this]; simp
end
end Mine
end
section
open PySem PySem.W PyProof.Rows PySem.Calls PySem.Spec
open PySem.Builtin PySem.Builtin.Re
set_option maxRecDepth 100000
namespace Mine
theorem call_str_none : typeLookup (.type "str") (Str.ofString "__call__") = pure none := by rw [typeLookup_type, builtinLookup_eq_fast]; kernel_rfl

section
variable {prog : Program} {w : World} {A : Around} {E : Value → Shared → Prop} {s : Shared}
theorem named_sub (a b : Value) : reNamed "re.Pattern.sub" "sub" ["repl", "string", "count"] 2 [a, b] [] = pure [some a, some b, none] := by
  unfold reNamed
  rfl
theorem sub_call {p : Addr} {code : Array Nat} {X r : List Nat} {F : Nat → Option (Nat × Nat)} {B : Nat} {t u : Tok} (hB : B ≤ 1000000) (hX : X.length ≤ 400) (hr : r.length ≤ 400) (hc : r.toArray.contains 92 = false)
    (hends : ∀ q, q ≤ X.length → Ends (Sre.forSearch code X.toArray 0 q X.toArray.size false) (F q) B) (hF : ∀ q a b, F q = some (a, b) → q ≤ a ∧ a < b ∧ b ≤ X.length)
    (hp : IsPat s.heap p code) {Q : Value → Shared → Prop}
    (hQ : ∀ h' tk t', (∀ b o, s.heap.get? b = some o → h'.get? b = some o) → Q (.str (sOf (subF F X r (X.length + 1) 0)) t') { s with heap := h', toks := tk }) :
    wpAny (model prog w) A (call (.builtin "re.Pattern.sub") [.ref p, .str (sOf r) u, .str (sOf X) t]) Q E s := by
  have hT : s.TypeIs (.ref p) "re.Pattern" := by
    obtain ⟨fv, ct, t2, t6, o5, its, n5, h1, _⟩ := hp.ex
    exact ⟨_, h1, rfl⟩
  refine call_meets slot_sub hT entry_sub (args_sub _ _ _) (S := fun A R s => IsPat s.heap p code ∧ ∀ h' tk t', (∀ b o, s.heap.get? b = some o → h'.get? b = some o) → R (.ok (.ret (.str (sOf (subF F X r (X.length + 1) 0)) t'))) { s with heap := h', toks := tk }) ?_ ⟨hp, hQ⟩
  intro prog w A R s ⟨hp, hR⟩
  unfold Builtin.«re.Pattern.sub» reSubstitute
  dsimp only
  refine wpAny_bind (wpAny_of_eq (named_sub _ _) ?_)
  refine wpAny_bind (wpAny_pure ?_)
  refine wpAny_bind (wpAny_specialOf (typeIs_str s _ _) call_str_none ?_)
  refine wpAny_bind (wpAny_of_eq (show asStr? (.str (sOf r) u) = pure (some (sOf r)) from rfl) ?_)
  refine wpAny_bind (wpAny_pure ?_)
  rw [hc]
  refine wpAny_bind (wpAny_pure ?_)
  refine wpAny_bind (wpAny_holding (whole_target hp ?_))
  refine wpAny_bind (wpAny_newList ?_ (by decide))
  refine wpAny_pure ⟨plainId_quiet plain_sub_loop _, codeAny_builtin entry_sub_loop ?_⟩
  rw [Around.under_plainId plain_sub_loop _]
  refine sub_loop hB hX hr hends hF (X.length + 1) 0 0 [] [] 0 (by omega) (Nat.zero_le _) rfl (fun y hy => by cases hy) (by simp) A R _ (hp.keep fun b o e => Heap.get?_push_of_some _ e) (Heap.get?_push_size _ rfl) fun h' tk t' hsb => ?_
  refine hR h' tk t' fun b o e => ?_
  have hb := Heap.lt_size e
  refine (hsb.2 b (fun q => ?_)).trans (Heap.get?_push_of_some _ e)
  rw [q] at hb
  exact absurd hb (Nat.lt_irrefl _)
end

/- line ends -/
noncomputable def crF (L : List Nat) : Bool → List Nat := @List.rec Nat (fun _ => Bool → List Nat) (fun _ => [])
  (fun c _ ih p => @Bool.rec (fun _ => List Nat) (@Bool.rec (fun _ => List Nat) (c :: ih false) (13 :: 10 :: ih true) (Nat.beq c 13)) (@Bool.rec (fun _ => List Nat) (13 :: 10 :: ih false) (ih false) p) (Nat.beq c 10)) L
theorem crF_10f (r : List Nat) : crF (10 :: r) false = 13 :: 10 :: crF r false := rfl
theorem crF_10t (r : List Nat) : crF (10 :: r) true = crF r false := rfl
theorem crF_13 (r : List Nat) (p : Bool) : crF (13 :: r) p = 13 :: 10 :: crF r true := rfl
theorem crF_other {c : Nat} (r : List Nat) (p : Bool) (h1 : c ≠ 10) (h2 : c ≠ 13) : crF (c :: r) p = c :: crF r false := by
  show @Bool.rec (fun _ => List Nat) (@Bool.rec (fun _ => List Nat) (c :: crF r false) (13 :: 10 :: crF r true) (Nat.beq c 13)) _ (Nat.beq c 10) = _
  have e1 : Nat.beq c 10 = false := by rw [Bool.eq_false_iff]; intro h; exact h1 (Nat.eq_of_beq_eq_true h)
  have e2 : Nat.beq c 13 = false := by rw [Bool.eq_false_iff]; intro h; exact h2 (Nat.eq_of_beq_eq_true h)
  rw [e1, e2]
theorem crF_not10 {r : List Nat} (h : ∀ r', r ≠ 10 :: r') : crF r true = crF r false := by
  cases r with
  | nil => rfl
  | cons c r =>
    by_cases h1 : c = 10
    · subst h1; exact absurd rfl (h r)
    · by_cases h2 : c = 13
      · subst h2; rfl
      · rw [crF_other r true h1 h2, crF_other r false h1 h2]
theorem adm_none : ∀ {L : List Nat} {p : Nat}, adm L p = none → crF L false = L
  | [], _, _ => rfl
  | c :: r, p, h => by
    rw [adm] at h
    split at h
    · cases h
    · rename_i hc
      rw [crF_other r false (fun q => hc (.inl q)) (fun q => hc (.inr q)), adm_none h]
theorem adm_some : ∀ {L : List Nat} {p i : Nat}, adm L p = some i → ∃ pre c r, L = pre ++ c :: r ∧ i = p + pre.length ∧ crF L false = pre ++ crF (c :: r) false ∧ (c = 10 ∨ c = 13)
  | [], _, _, h => by cases h
  | c :: r, p, i, h => by
    rw [adm] at h
    split at h
    · rename_i hc
      cases h
      exact ⟨[], c, r, rfl, rfl, rfl, hc⟩
    · rename_i hc
      obtain ⟨pre, d, r', e1, e2, e3, e4⟩ := adm_some h
      refine ⟨c :: pre, d, r', by rw [e1]; rfl, by rw [e2]; simp; omega, ?_, e4⟩
      rw [crF_other r false (fun q => hc (.inl q)) (fun q => hc (.inr q)), e3]; rfl
theorem find2_ok (X : List Nat) : ∀ q a b, find2 X q = some (a, b) → q ≤ a ∧ a < b ∧ b ≤ X.length := by
  intro q a b h
  unfold find2 at h
  cases ha : adm (X.drop q) q with
  | none => rw [ha] at h; cases h
  | some i =>
    rw [ha] at h
    obtain ⟨h1, h2, _⟩ := adm_hit rfl ha
    simp only [Option.map_some, Option.some.injEq, Prod.mk.injEq] at h
    obtain ⟨rfl, h⟩ := h
    split at h
    · rename_i hc; omega
    · omega
theorem drop_split {X pre : List Nat} {p : Nat} {L : List Nat} (h : X.drop p = pre ++ L) : X.drop (p + pre.length) = L := by
  have : X.drop (p + pre.length) = (X.drop p).drop pre.length := by rw [List.drop_drop]
  rw [this, h]; simp
theorem sub2_eq (X : List Nat) : ∀ (fuel p : Nat), X.length - p < fuel → subF (find2 X) X [13, 10] fuel p = crF (X.drop p) false
  | 0, _, h => absurd h (Nat.not_lt_zero _)
  | fuel + 1, p, h => by
    rw [subF]
    cases ha : adm (X.drop p) p with
    | none =>
      have : find2 X p = none := by unfold find2; rw [ha]; rfl
      rw [this, adm_none ha]
    | some i =>
      obtain ⟨pre, c, r, e1, e2, e3, e4⟩ := adm_some ha
      have hd : X.drop i = c :: r := by rw [e2]; exact drop_split e1
      obtain ⟨g1, g2, g3⟩ := drop_cons hd
      have hpi : (X.drop p).take (i - p) = pre := by rw [e1, e2]; simp
      have hf : find2 X p = some (i, i + if X.toArray.getD i 0 = 13 ∧ i + 1 < X.length ∧ X.toArray.getD (i + 1) 0 = 10 then 2 else 1) := by unfold find2; rw [ha]; rfl
      rw [hf, e3]
      dsimp only
      rw [hpi, g2, List.append_assoc]
      congr 1
      by_cases hc : c = 13 ∧ i + 1 < X.length ∧ X.toArray.getD (i + 1) 0 = 10
      · rw [if_pos hc]
        obtain ⟨rfl, hl, h10⟩ := hc
        cases r with
        | nil =>
          have := congrArg List.length g3
          simp at this
          omega
        | cons d r' =>
          obtain ⟨k1, k2, k3⟩ := drop_cons g3
          rw [k2] at h10
          subst h10
          rw [sub2_eq X fuel (i + 2) (by omega), crF_13, crF_10t, k3]; rfl
      · rw [if_neg hc, sub2_eq X fuel (i + 1) (by omega), g3]
        rcases e4 with rfl | rfl
        · rfl
        · rw [crF_13, crF_not10]
          · rfl
          · rintro r' rfl
            obtain ⟨k1, k2, k3⟩ := drop_cons g3
            exact hc ⟨rfl, k1, k2⟩

/- dots at line starts -/
noncomputable def dotF (L : List Nat) : Bool → List Nat := @List.rec Nat (fun _ => Bool → List Nat) (fun _ => [])
  (fun c _ ih bol => @Bool.rec (fun _ => List Nat) (c :: ih (Nat.beq c 10)) (@Bool.rec (fun _ => List Nat) (c :: ih (Nat.beq c 10)) (46 :: 46 :: ih false) bol) (Nat.beq c 46)) L
theorem beq_nat (a b : Nat) : Nat.beq a b = (a == b) := by rw [Bool.eq_iff_iff, Nat.beq_eq, beq_iff_eq]
theorem dotF_hit (r : List Nat) : dotF (46 :: r) true = 46 :: 46 :: dotF r false := rfl
theorem dotF_miss {c : Nat} {bol : Bool} (r : List Nat) (h : ¬ (bol = true ∧ c = 46)) : dotF (c :: r) bol = c :: dotF r (c == 10) := by
  show @Bool.rec (fun _ => List Nat) (c :: dotF r (Nat.beq c 10)) (@Bool.rec (fun _ => List Nat) (c :: dotF r (Nat.beq c 10)) (46 :: 46 :: dotF r false) bol) (Nat.beq c 46) = _
  rw [beq_nat, beq_nat]
  cases hc : (c == 46) with
  | false => rfl
  | true =>
    cases bol with
    | false => rfl
    | true => exact absurd ⟨rfl, by simpa using hc⟩ h
theorem f1_none : ∀ {L : List Nat} {bol : Bool} {p : Nat}, f1 bol L p = none → dotF L bol = L
  | [], _, _, _ => rfl
  | c :: r, bol, p, h => by
    rw [f1] at h
    split at h
    · cases h
    · rename_i hc
      rw [dotF_miss r hc, f1_none h]
theorem f1_some : ∀ {L : List Nat} {bol : Bool} {p i : Nat}, f1 bol L p = some i → ∃ pre r, L = pre ++ 46 :: r ∧ i = p + pre.length ∧ dotF L bol = pre ++ 46 :: 46 :: dotF r false
  | [], _, _, _, h => by cases h
  | c :: r, bol, p, i, h => by
    rw [f1] at h
    split at h
    · rename_i hc
      cases h
      obtain ⟨rfl, rfl⟩ := hc
      exact ⟨[], r, rfl, rfl, rfl⟩
    · rename_i hc
      obtain ⟨pre, r', e1, e2, e3⟩ := f1_some h
      refine ⟨c :: pre, r', by rw [e1]; rfl, by rw [e2]; simp; omega, ?_⟩
      rw [dotF_miss r hc, e3]; rfl
theorem find1_ok (X : List Nat) : ∀ q a b, find1 X q = some (a, b) → q ≤ a ∧ a < b ∧ b ≤ X.length := by
  intro q a b h
  unfold find1 at h
  cases ha : f1 (q == 0 || X.toArray.getD (q - 1) 0 == 10) (X.drop q) q with
  | none => rw [ha] at h; cases h
  | some i =>
    rw [ha] at h
    obtain ⟨pre, r, e1, e2, _⟩ := f1_some ha
    simp only [Option.map_some, Option.some.injEq, Prod.mk.injEq] at h
    obtain ⟨rfl, rfl⟩ := h
    have hd : X.drop i = 46 :: r := by rw [e2]; exact drop_split e1
    obtain ⟨g1, _, _⟩ := drop_cons hd
    omega
theorem sub1_eq (X : List Nat) : ∀ (fuel p : Nat), X.length - p < fuel → subF (find1 X) X [46, 46] fuel p = dotF (X.drop p) (p == 0 || X.toArray.getD (p - 1) 0 == 10)
  | 0, _, h => absurd h (Nat.not_lt_zero _)
  | fuel + 1, p, h => by
    rw [subF]
    cases ha : f1 (p == 0 || X.toArray.getD (p - 1) 0 == 10) (X.drop p) p with
    | none =>
      have : find1 X p = none := by unfold find1; rw [ha]; rfl
      rw [this, f1_none ha]
    | some i =>
      obtain ⟨pre, r, e1, e2, e3⟩ := f1_some ha
      have hd : X.drop i = 46 :: r := by rw [e2]; exact drop_split e1
      obtain ⟨g1, g2, g3⟩ := drop_cons hd
      have hpi : (X.drop p).take (i - p) = pre := by rw [e1, e2]; simp
      have hf : find1 X p = some (i, i + 1) := by unfold find1; rw [ha]; rfl
      rw [hf, e3]
      dsimp only
      rw [hpi, List.append_assoc, sub1_eq X fuel (i + 1) (by omega), g3]
      have hb : (i + 1 == 0 || X.toArray.getD (i + 1 - 1) 0 == 10) = false := by
        have : i + 1 - 1 = i := rfl
        rw [this, g2]; rfl
      rw [hb]; rfl

section
variable {prog : Program} {w : World} {A : Around} {I : List Addr → AS → Heap → Prop} {env : Env} {κ : Kp}
structure KPat (κ : Kp) (p : Addr) (code : Array Nat) : Prop where
  ex : ∃ (fv : Array Value) (ct : Addr) (t2 t6 : Tok) (o5 : Obj) (its : Array Value) (n5 : Nat), κ p = some { cls := .type "re.Pattern", dict := none, data := .fields fv, slots := #[] } ∧
    fv.getD 2 .none = .int 0 t2 ∧ fv.getD 6 .none = .int 0 t6 ∧ fv.getD 5 .none = .ref ct ∧ κ ct = some o5 ∧ o5.cls = .type "tuple" ∧ o5.data = .seq its n5 ∧ (its.map reRawOf).map (fun x => x.toNat) = code
theorem KPat.le {κ' : Kp} {p code} (k : KPat κ p code) (le : leK κ κ') : KPat κ' p code := by
  obtain ⟨fv, ct, t2, t6, o5, its, n5, h1, h2, h3, h4, h5, h6⟩ := k.ex
  exact ⟨fv, ct, t2, t6, o5, its, n5, le _ _ h1, h2, h3, h4, le _ _ h5, h6⟩
theorem KPat.at {p code} (k : KPat κ p code) {h : Heap} (keep : ∀ b o, κ b = some o → h.get? b = some o) : IsPat h p code := by
  obtain ⟨fv, ct, t2, t6, o5, its, n5, h1, h2, h3, h4, h5, h6⟩ := k.ex
  exact ⟨fv, ct, t2, t6, o5, its, n5, keep _ _ h1, h2, h3, h4, keep _ _ h5, h6⟩
noncomputable def bSub2 (as : List AV) (st : AS) : Option (AV × AS) := arg2 as fun a b => onStr a fun r => onStr b fun x => onBool (eqL r [13, 10]) (onBool (Nat.ble (lenR x) 400) (some (.str (crF x false), st)))
noncomputable def bSub1 (as : List AV) (st : AS) : Option (AV × AS) := arg2 as fun a b => onStr a fun r => onStr b fun x => onBool (eqL r [46, 46]) (onBool (Nat.ble (lenR x) 400) (some (.str (dotF x true), st)))
theorem O_sub2 (V : IsInv κ I) {p : Addr} (hp : KPat κ p code2) : OpN (model prog w) A I VR (fun vs => call (.builtin "re.Pattern.sub") (.ref p :: vs)) bSub2 := by
  intro as as' σ st s b st' hI ha e Q hQ
  obtain ⟨a, c, rfl, e⟩ := arg2_some e
  obtain ⟨r, x, rfl, rfl, e⟩ := two_strs e
  obtain ⟨h1, e⟩ := onBool_some e
  obtain ⟨h2, e⟩ := onBool_some e
  cases e
  rw [eqL_eq, beq_iff_eq] at h1
  subst h1
  rw [Nat.ble_eq, lenR_eq] at h2
  obtain ⟨a', c', rfl, ⟨t, rfl⟩, ⟨u, rfl⟩⟩ := vrs2 ha
  refine sub_call (B := 20) (by decide) h2 (by decide) (by simp) (fun q hq => search2 x q hq) (find2_ok x) (hp.at (V.rh hI).keep) fun h' tk t' keep => ?_
  rw [sub2_eq x _ _ (by omega), List.drop_zero]
  exact hQ [] h' tk _ (app_nil_heap (inv_grow V hI keep)) ⟨t', rfl⟩
theorem O_sub1 (V : IsInv κ I) {p : Addr} (hp : KPat κ p code1) : OpN (model prog w) A I VR (fun vs => call (.builtin "re.Pattern.sub") (.ref p :: vs)) bSub1 := by
  intro as as' σ st s b st' hI ha e Q hQ
  obtain ⟨a, c, rfl, e⟩ := arg2_some e
  obtain ⟨r, x, rfl, rfl, e⟩ := two_strs e
  obtain ⟨h1, e⟩ := onBool_some e
  obtain ⟨h2, e⟩ := onBool_some e
  cases e
  rw [eqL_eq, beq_iff_eq] at h1
  subst h1
  rw [Nat.ble_eq, lenR_eq] at h2
  obtain ⟨a', c', rfl, ⟨t, rfl⟩, ⟨u, rfl⟩⟩ := vrs2 ha
  refine sub_call (B := 6 * x.length + 20) (by omega) h2 (by decide) (by simp) (fun q hq => search1 x q hq) (find1_ok x) (hp.at (V.rh hI).keep) fun h' tk t' keep => ?_
  rw [sub1_eq x _ _ (by omega), List.drop_zero]
  exact hQ [] h' tk _ (app_nil_heap (inv_grow V hI keep)) ⟨t', rfl⟩

/-- a method of a thing that a name always stands for -/
theorem S_MethK {x name : Str} {id : String} {a : Addr} {px ap pos : Pos} {e0 : PySem.Expr} {rest : List PySem.Expr} {fa : AS → Option (List AV × AS)} {g : List AV → AS → Option (AV × AS)} {pl : Sem Bool}
    (hn : NameIs (model prog w) A I env x (.ref a)) (hm' : ∀ σ st (s : Shared) pl (Q : Value × List Value → Shared → Prop) (E : Value → Shared → Prop), I σ st s.heap → Q (.builtin id, [.ref a]) s → wpAny (model prog w) A (getMethod (.ref a) name pl) Q E s)
    (ha : S (model prog w) A I VRs (spliced (backTo pos (starEach (e0 :: rest) env))) fa) (hop : OpN (model prog w) A I VR (fun vs => call (.builtin id) (.ref a :: vs)) g)
    (hs : starEach (e0 :: rest) env = (false, eval e0 env) :: starEach rest env := by rfl) (hm : ((backTo pos (starEach rest env)).any fun x => x.1) = false := by rfl)
    (hc : eval (.Call (.Attribute (.Name x px) name ap) (e0 :: rest) [] pos) env = (do
          let ov ← eval (.Name x px) env
          standAt ap.atName
          let x ← holding [ov] (getMethod ov name pl)
          match x with
          | (f, first) => callWith pos f first (backTo pos (starEach (e0 :: rest) env)) (backToKw pos (keywordEach [] env))) := by rfl) :
    S (model prog w) A I VR (eval (.Call (.Attribute (.Name x px) name ap) (e0 :: rest) [] pos) env) (seqA fa g) := by
  refine .mk fun σ st s b st' hI e Q hQ => ?_
  obtain ⟨as, st₂, e2, e⟩ := seqA_some e
  refine methodCall_KW (hn px σ st s _ _ hI (hm' σ st s _ _ _ hI ?_)) hc
  refine PyProof.Rows.callWith_method1 (ha.run _ _ _ _ _ hI e2 _ fun τ₂ h₂ t₂ as' I₂ r₂ => ?_) hs hm
  refine hop _ _ _ _ _ _ _ I₂ r₂ e _ fun τ₃ h₃ t₃ x I₃ r₃ => ?_
  rw [List.append_assoc] at I₃ r₃
  exact hQ _ _ _ _ I₃ r₃
theorem getsK_sub (V : IsInv κ I) {p code} (hp : KPat κ p code) : ∀ σ st (s : Shared) pl (Q : Value × List Value → Shared → Prop) (E : Value → Shared → Prop), I σ st s.heap → Q (.builtin "re.Pattern.sub", [.ref p]) s → wpAny (model prog w) A (getMethod (.ref p) (Str.ofString "sub") pl) Q E s := by
  intro σ st s pl Q E hI hQ
  obtain ⟨fv, ct, t2, t6, o5, its, n5, h1, _⟩ := (hp.at (V.rh hI).keep).ex
  exact getMethod_builtin (T := "re.Pattern") ⟨_, h1, rfl⟩ plainAttrs_pat slot_sub type_sub (fun b e => by cases e; exact ⟨_, h1, rfl⟩) hQ
end
end Mine
end
section
open PySem PySem.W PyProof.Rows PySem.Calls PySem.Spec
set_option maxRecDepth 100000
namespace Mine
section
variable {prog : Program} {w : World} {A : Around} {I : List Addr → AS → Heap → Prop} {env : Env} {κ : Kp}
theorem S_CallF (V : IsInv κ I) {x : Str} {p pos : Pos} {a : Addr} {o : Obj} {fd : FuncData} {e0 : PySem.Expr} {rest : List PySem.Expr} {fa : AS → Option (List AV × AS)} {g : List AV → AS → Option (AV × AS)} (hn : NameIs (model prog w) A I env x (.ref a)) (hk : κ a = some o) (hd : o.data = .func fd)
    (ha : S (model prog w) A I VRs (spliced (backTo pos (starEach (e0 :: rest) env))) fa) (ho : OpN (model prog w) A I VR (fun vs => call (.ref a) vs) g)
    (hs : starEach (e0 :: rest) env = (false, eval e0 env) :: starEach rest env := by rfl)
    (hc : eval (.Call (.Name x p) (e0 :: rest) [] pos) env = (do
          let f ← eval (.Name x p) env
          callWith pos f [] (backTo pos (starEach (e0 :: rest) env)) (backToKw pos (keywordEach [] env))) := by rfl) :
    S (model prog w) A I VR (eval (.Call (.Name x p) (e0 :: rest) [] pos) env) (seqA fa g) := by
  refine .mk fun σ st s b st' hI e Q hQ => ?_
  obtain ⟨as, st₁, e1, e⟩ := seqA_some e
  refine Call_ (hn _ σ st s _ _ hI (PyProof.Rows.callWith_def hd (ha.run σ st s as _ hI e1 _ fun τ₁ h₁ t₁ as' I₁ r₁ => ⟨(V.rh I₁).keep _ _ hk, ho _ _ _ _ _ _ _ I₁ r₁ e _ fun τ₂ h₂ t₂ x I₂ r₂ => ?_⟩) hs)) hc
  rw [List.append_assoc] at I₂ r₂
  exact hQ _ _ _ _ I₂ r₂
end

abbrev pw : Program := PySem.Challenge.pw_us0013_01
def stN (i : Nat) : Stmt := match PySem.Challenge.pw_us0013_01.main.body[i]? with
  | some s => s
  | none => .Pass ⟨0, 0, 0, 0⟩
def bodyOf : Stmt → List Stmt
  | .FunctionDef _ _ b _ _ _ _ _ _ _ => b
  | _ => []
def scopeOf : Stmt → Scope
  | .FunctionDef _ _ _ _ _ _ s _ _ _ => s
  | _ => { kind := .function, names := [], isGenerator := false, isCoroutine := false, more := [] }

abbrev nm (x : String) : Str := Str.ofString x
/-- the names that the functions look up -/
structure Glo (mg mb : Str → Option Value) : Prop where
  len : mg (nm "len") = none ∧ mb (nm "len") = some (.builtin "len")
  max : mg (nm "max") = none ∧ mb (nm "max") = some (.builtin "max")
  hex : mg (nm "hex") = none ∧ mb (nm "hex") = some (.builtin "hex")
  sorted : mg (nm "sorted") = none ∧ mb (nm "sorted") = some (.builtin "sorted")
  str : mg (nm "str") = none ∧ mb (nm "str") = some (.type "str")
  type : mg (nm "type") = none ∧ mb (nm "type") = some (.type "type")
  list : mg (nm "list") = none ∧ mb (nm "list") = some (.type "list")
  range : mg (nm "range") = none ∧ mb (nm "range") = some (.type "range")
  twin1 : mg (nm "_twin_re_1") = some (.ref 43)
  twin2 : mg (nm "_twin_re_2") = some (.ref 48)
  crlf : ∃ t, mg (nm "CRLF") = some (.str (sOf [13, 10]) t)
  quote : mg (nm "quotedata") = some (.ref 55)
  bis : mg (nm "bisect_left") = some (.ref 64)
  flags : mg (nm "COMPILER_FLAG_NAMES") = some (.ref 65)
  pretty : mg (nm "pretty_flags") = some (.ref 72)
  nameRe : mg (nm "_name_disallowed_re") = some (.ref 77)
  valueRe : mg (nm "_value_disallowed_re") = some (.ref 82)
  headers : mg (nm "Headers") = some (.ref 205)
  told : mg (nm "_law_told") = some (.ref 216)
  driven : mg (nm "_law_driven") = some (.ref 223)
  table : mg (nm "_law_by_table") = some (.ref 228)
  halves : mg (nm "_law_by_halves") = some (.ref 235)
  once : mg (nm "_law_all_at_once") = some (.ref 240)

section
variable {prog : Program} {w : World} {A : Around} {κ : Kp} {L : Addr} {names : List Str} {pins : List (Nat × Addr)} {env : Env} {mg mb : Str → Option Value} {K : Frag} {sc : Scope} {q : Str} {a : Addr} {cd : Value}
theorem lo (i : Nat) {x : Str} {pos : Pos} (hk : sc.kind = .function) (hl : (envD sc q L a cd).kindOf x = some .local) (hi : names[i]? = some x) (hd : (x == ("__debug__" : Str)) = false := by decide) :
    S (model prog w) A (RF κ L names pins) VR (eval (.Name x pos) (envD sc q L a cd)) (aLoc i) := S_loc (envD_e0 hk) hl hi hd
theorem so (i : Nat) {x : Str} (hk : sc.kind = .function) (hl : (envD sc q L a cd).kindOf x = some .local) (hi : names[i]? = some x) : Op1 (model prog w) A (RF κ L names pins) UR (storeName (envD sc q L a cd) x) (aSt i) := O_store (envD_e0 hk) hl hi
theorem ld (i : Nat) {x : Str} (hk : sc.kind = .function) (hl : (envD sc q L a cd).kindOf x = some .local) (hi : names[i]? = some x) : S (model prog w) A (RF κ L names pins) VR (loadName (envD sc q L a cd) x) (aLoc i) := S_load (envD_e0 hk) hl hi
theorem ta (i : Nat) {x : Str} {px : Pos} (hk : sc.kind = .function) (hl : (envD sc q L a cd).kindOf x = some .local) (hi : names[i]? = some x) : Op1 (model prog w) A (RF κ L names pins) UR (assign (.Name x px) (envD sc q L a cd)) (aSt i) := O_target (envD_e0 hk) hl hi
theorem nb (B : Base mg mb K κ) {x : Str} {v : Value} (hv : mg x = none ∧ mb x = some v) (hk : sc.kind = .function) (hx : (envD sc q L a cd).kindOf x = some .globalImplicit) (hd : (x == ("__debug__" : Str)) = false := by decide) :
    NameIs (model prog w) A (RF κ L names pins) (envD sc q L a cd) x v := name_builtin RF.inv B hv.1 hv.2 hk hx rfl rfl hd
theorem ng (B : Base mg mb K κ) {x : Str} {v : Value} (hv : mg x = some v) (hk : sc.kind = .function) (hx : (envD sc q L a cd).kindOf x = some .globalImplicit) (hd : (x == ("__debug__" : Str)) = false := by decide) :
    NameIs (model prog w) A (RF κ L names pins) (envD sc q L a cd) x v := name_global RF.inv B hv hk hx rfl hd
end

abbrev nmDriven : List Str := [nm "wishes", nm "drives", nm "over", nm "k", nm "step"]
noncomputable def driven_d : {f : AS → Option (AF × AS) // ∀ (prog : Program) (w : World) (mg mb : Str → Option Value) (K : Frag), Glo mg mb → BodyS (model prog w) (Base mg mb K) 5 100 (scopeOf (stN 18)) nmDriven (bodyOf (stN 18)) f} :=
  ⟨_, fun prog w mg mb K G A κ L a q cd hB rm =>
    S_cons (S_Assign (S_List RF.inv (S_args_cons S_int (S_args_cons S_int (S_args_cons S_int (S_args_cons S_int (S_args_cons S_int (S_args_cons S_int (S_args_cons S_int S_args_nil)))))))) (so 2 rfl rfl rfl))
    (S_cons (S_For rm.hh (Src_range (nb hB G.range rfl rfl) (S_args_cons (S_CallB (nb hB G.len rfl rfl) (S_args_cons (lo 0 rfl rfl rfl) S_args_nil) (O_len RF.inv)) S_args_nil))
      (fun κ' le => ta 3 rfl rfl rfl)
      (fun κ' le => S_one (S_For rm.hh (Src_range (nb (hB.le le) G.range rfl rfl) (S_args_cons (S_Sub RF.inv (lo 1 rfl rfl rfl) (lo 3 rfl rfl rfl)) S_args_nil))
        (fun κ' le' => ta 4 rfl rfl rfl)
        (fun κ' le' => S_one (S_AugSub RF.inv (lo 2 rfl rfl rfl) (S_BinOp (S_BinOp (S_Sub RF.inv (lo 0 rfl rfl rfl) (lo 3 rfl rfl rfl)) (lo 4 rfl rfl rfl) O_add) S_int O_mod) S_int O_iadd))
        S_nil (go_name _)))
      S_nil (go_name _))
    (S_one (S_Return (lo 2 rfl rfl rfl))))⟩

abbrev nmTold : List Str := [nm "wishes", nm "flags", nm "told", nm "over", nm "place", nm "here", nm "most", nm "length"]
noncomputable def told_d : {f : AS → Option (AF × AS) // ∀ (prog : Program) (w : World) (mg mb : Str → Option Value) (K : Frag), Glo mg mb → BodyS (model prog w) (Base mg mb K) 5 100 (scopeOf (stN 17)) nmTold (bodyOf (stN 17)) f} :=
  ⟨_, fun prog w mg mb K G A κ L a q cd hB rm =>
    S_cons (S_Assign (S_List RF.inv (S_args_cons (S_str (l := [79,80,84,73,77,73,90,69,68]) rfl) (S_args_cons (S_str (l := [78,69,87,76,79,67,65,76,83]) rfl) (S_args_cons (S_str (l := [86,65,82,65,82,71,83]) rfl) (S_args_cons (S_str (l := [86,65,82,75,69,89,87,79,82,68,83]) rfl)
      (S_args_cons (S_str (l := [78,69,83,84,69,68]) rfl) (S_args_cons (S_str (l := [71,69,78,69,82,65,84,79,82]) rfl) (S_args_cons (S_str (l := [78,79,70,82,69,69]) rfl) S_args_nil)))))))) (so 1 rfl rfl rfl))
    (S_cons (S_Assign (S_List RF.inv S_args_nil) (so 2 rfl rfl rfl))
    (S_cons (S_Assign (S_List RF.inv S_args_nil) (so 3 rfl rfl rfl))
    (S_cons (S_For rm.hh (Src_range (nb hB G.range rfl rfl) (S_args_cons S_int S_args_nil))
      (fun κ' le => ta 4 rfl rfl rfl)
      (fun κ' le =>
        S_cons (S_Assign S_int (so 5 rfl rfl rfl))
        (S_cons (S_Assign S_USub (so 6 rfl rfl rfl))
        (S_cons (S_For rm.hh (Src_range (nb (hB.le le) G.range rfl rfl) (S_args_cons S_int (S_args_cons S_int S_args_nil)))
          (fun κ' le' => ta 7 rfl rfl rfl)
          (fun κ' le' =>
            S_cons (S_AugName (ld 5 rfl rfl rfl) (S_Meth1 (gets_list RF.inv PySem.F.slot_list_count PySem.F.type_list_count) (lo 0 rfl rfl rfl)
              (S_args_cons (S_BinOp (S_BinOp (S_BinOp (lo 4 rfl rfl rfl) S_int O_add) (lo 7 rfl rfl rfl) O_sub) S_int O_mod) S_args_nil) (O_count RF.inv)) O_iadd (so 5 rfl rfl rfl))
            (S_one (S_Assign (S_CallB (nb ((hB.le le).le le') G.max rfl rfl) (S_args_cons (lo 6 rfl rfl rfl) (S_args_cons (S_BinOp (lo 5 rfl rfl rfl) (lo 7 rfl rfl rfl) O_sub) S_args_nil)) (O_max RF.inv rm.hh)) (so 6 rfl rfl rfl))))
          S_nil (go_name _))
        (S_cons (S_If (S_isTrue_cmp (lo 6 rfl rfl rfl) S_int O_ge) (S_one (S_Expr (S_Meth1 (gets_list RF.inv PySem.F.slot_list_append PySem.F.type_list_append) (lo 2 rfl rfl rfl) (S_args_cons (S_Sub RF.inv (lo 1 rfl rfl rfl) (lo 4 rfl rfl rfl)) S_args_nil) (O_append RF.inv)))) S_nil)
        (S_one (S_Expr (S_Meth1 (gets_list RF.inv PySem.F.slot_list_append PySem.F.type_list_append) (lo 3 rfl rfl rfl) (S_args_cons (S_CallB (nb (hB.le le) G.max rfl rfl) (S_args_cons (lo 6 rfl rfl rfl) (S_args_cons S_int S_args_nil)) (O_max RF.inv rm.hh)) S_args_nil) (O_append RF.inv))))))))
      S_nil (go_name _))
    (S_one (S_Return (S_Tuple RF.inv (S_args_cons (lo 2 rfl rfl rfl) (S_args_cons (lo 3 rfl rfl rfl) S_args_nil))))))))⟩
end Mine
end
section
open PySem PySem.W PyProof.Rows PySem.Calls PySem.Spec
set_option maxRecDepth 100000
namespace Mine
def FnAt (K : Frag) (a : Addr) : Prop := ∃ o fd, K.lookup a = some o ∧ o.data = .func fd
section
variable {prog : Program} {w : World} {A : Around} {I : List Addr → AS → Heap → Prop} {env : Env} {κ : Kp} {mg mb : Str → Option Value} {K : Frag}
theorem S_never {M : Model} {α β : Type} {R : List Addr → β → α → Prop} {t : Sem α} : S M A I R t (fun _ => none) := ⟨fun σ st s b st' hI e => by cases e⟩
theorem S_nameStr {x : Str} {p : Pos} {l : List Nat} (hn : ∃ t, NameIs (model prog w) A I env x (.str (sOf l) t)) : S (model prog w) A I VR (eval (.Name x p) env) (okA (.str l)) := by
  refine .mk fun σ st s b st' hI e Q hQ => ?_
  cases e
  obtain ⟨t, hn⟩ := hn
  exact hn p σ st s _ _ hI (hQ [] s.heap s.toks _ (app_nil_heap hI) ⟨t, rfl⟩)
theorem S_CallU (V : IsInv κ I) (hB : Base mg mb K κ) {x : Str} {p pos : Pos} {a : Addr} {d u : Nat} {e0 : PySem.Expr} {rest : List PySem.Expr} {fa : AS → Option (List AV × AS)} {F : List AV → List AO → Option (AV × List AO)} (hn : NameIs (model prog w) A I env x (.ref a)) (hk : FnAt K a)
    (ha : S (model prog w) A I VRs (spliced (backTo pos (starEach (e0 :: rest) env))) fa) (ho : SFun (model prog w) (Base mg mb K) d u (fun vs => call (.ref a) vs) F) (rm : Rm A d u)
    (hs : starEach (e0 :: rest) env = (false, eval e0 env) :: starEach rest env := by rfl)
    (hc : eval (.Call (.Name x p) (e0 :: rest) [] pos) env = (do
          let f ← eval (.Name x p) env
          callWith pos f [] (backTo pos (starEach (e0 :: rest) env)) (backToKw pos (keywordEach [] env))) := by rfl) :
    S (model prog w) A I VR (eval (.Call (.Name x p) (e0 :: rest) [] pos) env) (seqA fa (aCall F)) := by
  obtain ⟨o, fd, h1, h2⟩ := hk
  exact S_CallF V hn (hB.k _ _ h1) h2 ha (O_fun V hB ho rm) hs hc
theorem getsK_flag (V : IsInv κ I) {d : Addr} {o : Obj} (hk : κ d = some o) (hx : o.ExactDict) : ∀ σ st (s : Shared) pl (Q : Value × List Value → Shared → Prop) (E : Value → Shared → Prop), I σ st s.heap → Q (.builtin "dict.get", [.ref d]) s → wpAny (model prog w) A (getMethod (.ref d) (Str.ofString "get") pl) Q E s := by
  intro σ st s pl Q E hI hQ
  have h1 := (V.rh hI).keep _ _ hk
  exact getMethod_builtin (T := "dict") ⟨_, h1, hx.1⟩ PySem.F.plainAttrs_dict PySem.F.slot_dict_get PySem.F.type_dict_get (fun b e => by cases e; exact ⟨_, h1, hx.2.1⟩) hQ
end

structure FlagAt (K : Frag) (w : World) : Prop where
  ex : ∃ (o : Obj) (es : Array DictEntry) (ep : Nat), K.lookup 65 = some o ∧ o.ExactDict ∧ o.data = .dict es ep ∧ KeysOf (intKind pw w) es ∧ ∀ p ∈ flagTab, ∃ t, findBy (intKind pw w).is es ((p.1 : Nat) : Int) = some (.str (sOf p.2) t)

abbrev nmBis : List Str := [nm "a", nm "x", nm "lo", nm "hi", nm "key", nm "mid"]
noncomputable def bis_d : {f : AS → Option (AF × AS) // ∀ (prog : Program) (w : World) (mg mb : Str → Option Value) (K : Frag), Glo mg mb → BodyS (model prog w) (Base mg mb K) 5 100 (scopeOf (stN 8)) nmBis (bodyOf (stN 8)) f} :=
  ⟨_, fun prog w mg mb K G A κ L a q cd hB rm =>
    S_cons (S_If (S_isTrue_cmp (lo 2 rfl rfl rfl) S_int O_lt) S_never S_nil)
    (S_cons (S_If (S_isTrue_cmp (lo 3 rfl rfl rfl) S_none O_is) (S_one (S_Assign (S_CallB (nb hB G.len rfl rfl) (S_args_cons (lo 0 rfl rfl rfl) S_args_nil) (O_len RF.inv)) (so 3 rfl rfl rfl))) S_nil)
    (S_cons (S_If (S_isTrue_cmp (lo 4 rfl rfl rfl) S_none O_is)
      (S_one (S_While (S_isTrue_cmp (lo 2 rfl rfl rfl) (lo 3 rfl rfl rfl) O_lt)
        (S_cons (S_Assign (S_BinOp (S_BinOp (lo 2 rfl rfl rfl) (lo 3 rfl rfl rfl) O_add) S_int O_div) (so 5 rfl rfl rfl))
        (S_one (S_If (S_isTrue_cmp (S_Sub RF.inv (lo 0 rfl rfl rfl) (lo 5 rfl rfl rfl)) (lo 1 rfl rfl rfl) O_lt)
          (S_one (S_Assign (S_BinOp (lo 5 rfl rfl rfl) S_int O_add) (so 2 rfl rfl rfl)))
          (S_one (S_Assign (lo 5 rfl rfl rfl) (so 3 rfl rfl rfl))))))))
      S_never)
    (S_one (S_Return (lo 2 rfl rfl rfl)))))⟩

abbrev nmPretty : List Str := [nm "flags", nm "names", nm "i", nm "flag"]
noncomputable def pretty_d : {f : AS → Option (AF × AS) // ∀ (w : World) (mg mb : Str → Option Value) (K : Frag), Glo mg mb → FlagAt K w → BodyS (model pw w) (Base mg mb K) 5 100 (scopeOf (stN 11)) nmPretty (bodyOf (stN 11)) f} :=
  ⟨_, fun w mg mb K G ⟨o, es, ep, ho, hx, hd, hkeys, hfind⟩ A κ L a q cd hB rm =>
    S_cons (S_Assign (S_List RF.inv S_args_nil) (so 1 rfl rfl rfl))
    (S_cons (S_For rm.hh (Src_range (nb hB G.range rfl rfl) (S_args_cons S_int S_args_nil))
      (fun κ' le => ta 2 rfl rfl rfl)
      (fun κ' le =>
        S_cons (S_Assign (S_BinOp S_int (lo 2 rfl rfl rfl) O_shl) (so 3 rfl rfl rfl))
        (S_one (S_If (S_isTrue_val (S_BinOp (lo 0 rfl rfl rfl) (lo 3 rfl rfl rfl) O_and) O_truthy)
          (S_cons (S_Expr (S_Meth1 (gets_list RF.inv PySem.F.slot_list_append PySem.F.type_list_append) (lo 1 rfl rfl rfl)
            (S_args_cons (S_MethK (ng (hB.le le) G.flags rfl rfl) (getsK_flag RF.inv ((hB.le le).k _ _ ho) hx) (S_args_cons (lo 3 rfl rfl rfl) (S_args_cons (S_CallB (nb (hB.le le) G.hex rfl rfl) (S_args_cons (lo 3 rfl rfl rfl) S_args_nil) O_hex) S_args_nil))
              (O_flag RF.inv ((hB.le le).k _ _ ho) hx hd hkeys hfind (by decide))) S_args_nil) (O_append RF.inv)))
          (S_cons (S_AugName (ld 0 rfl rfl rfl) (lo 3 rfl rfl rfl) O_ixor (so 0 rfl rfl rfl))
          (S_one (S_If (S_isTrue_not (S_isTrue_val (lo 0 rfl rfl rfl) O_truthy)) (S_one S_Break) S_nil))))
          S_nil)))
      (S_one (S_Expr (S_Meth1 (gets_list RF.inv PySem.F.slot_list_append PySem.F.type_list_append) (lo 1 rfl rfl rfl) (S_args_cons (S_CallB (nb hB G.hex rfl rfl) (S_args_cons (lo 0 rfl rfl rfl) S_args_nil) O_hex) S_args_nil) (O_append RF.inv))))
      (go_name _))
    (S_one (S_Return (S_Meth1 (gets_str PySem.F.slot_str_join PySem.F.type_str_join) (S_str (l := [44, 32]) rfl) (S_args_cons (lo 1 rfl rfl rfl) S_args_nil) (O_join RF.inv)))))⟩

structure TwinAt (K : Frag) : Prop where
  one : ∀ κ : Kp, (∀ a o, K.lookup a = some o → κ a = some o) → KPat κ 43 code1
  two : ∀ κ : Kp, (∀ a o, K.lookup a = some o → κ a = some o) → KPat κ 48 code2
abbrev nmQuote : List Str := [nm "data"]
noncomputable def quote_d : {f : AS → Option (AF × AS) // ∀ (prog : Program) (w : World) (mg mb : Str → Option Value) (K : Frag), Glo mg mb → TwinAt K → BodyS (model prog w) (Base mg mb K) 5 100 (scopeOf (stN 6)) nmQuote (bodyOf (stN 6)) f} :=
  ⟨_, fun prog w mg mb K G T A κ L a q cd hB rm =>
    S_one (S_Return (S_MethK (ng hB G.twin1 rfl rfl) (getsK_sub RF.inv (T.one κ hB.k)) (S_args_cons (S_str (l := [46, 46]) rfl)
      (S_args_cons (S_MethK (ng hB G.twin2 rfl rfl) (getsK_sub RF.inv (T.two κ hB.k)) (S_args_cons (S_nameStr (let ⟨t, h⟩ := G.crlf; ⟨t, ng hB h rfl rfl⟩)) (S_args_cons (lo 0 rfl rfl rfl) S_args_nil)) (O_sub2 RF.inv (T.two κ hB.k))) S_args_nil)) (O_sub1 RF.inv (T.one κ hB.k))))⟩

abbrev nmHalves : List Str := [nm "wishes", nm "free", nm "taken", nm "drives", nm "wish", nm "k"]
noncomputable def halves_d (Fb Fd : List AV → List AO → Option (AV × List AO)) : {f : AS → Option (AF × AS) // ∀ (prog : Program) (w : World) (mg mb : Str → Option Value) (K : Frag), Glo mg mb → FnAt K 64 → FnAt K 223 →
    SFun (model prog w) (Base mg mb K) 6 103 (fun vs => call (.ref 64) vs) Fb → SFun (model prog w) (Base mg mb K) 6 103 (fun vs => call (.ref 223) vs) Fd →
    BodyS (model prog w) (Base mg mb K) 10 200 (scopeOf (stN 20)) nmHalves (bodyOf (stN 20)) f} :=
  ⟨_, fun prog w mg mb K G hb hd Sb Sd A κ L a q cd hB rm =>
    S_cons (S_Assign (S_List RF.inv (S_args_cons S_int (S_args_cons S_int (S_args_cons S_int (S_args_cons S_int (S_args_cons S_int (S_args_cons S_int (S_args_cons S_int S_args_nil)))))))) (so 1 rfl rfl rfl))
    (S_cons (S_Assign S_int (so 2 rfl rfl rfl))
    (S_cons (S_Assign (S_List RF.inv S_args_nil) (so 3 rfl rfl rfl))
    (S_cons (S_For rm.hh (Src_list (lo 0 rfl rfl rfl))
      (fun κ' le => ta 4 rfl rfl rfl)
      (fun κ' le =>
        S_cons (S_Assign (S_CallU RF.inv (hB.le le) (ng (hB.le le) G.bis rfl rfl) hb (S_args_cons (lo 1 rfl rfl rfl) (S_args_cons (lo 4 rfl rfl rfl) S_args_nil)) Sb (rm.le (by decide) (by decide))) (so 5 rfl rfl rfl))
        (S_cons (S_If (S_isTrue_cmp (lo 5 rfl rfl rfl) (S_CallB (nb (hB.le le) G.len rfl rfl) (S_args_cons (lo 1 rfl rfl rfl) S_args_nil) (O_len RF.inv)) O_eq) (S_one (S_Assign S_int (so 5 rfl rfl rfl))) S_nil)
        (S_cons (S_AugName (ld 2 rfl rfl rfl) (S_BinOp S_int (S_Sub RF.inv (lo 1 rfl rfl rfl) (lo 5 rfl rfl rfl)) O_pow) O_iadd (so 2 rfl rfl rfl))
        (S_cons (S_Expr (S_Meth1 (gets_list RF.inv PySem.F.slot_list_append PySem.F.type_list_append) (lo 3 rfl rfl rfl) (S_args_cons (S_BinOp (S_BinOp (S_Sub RF.inv (lo 1 rfl rfl rfl) (lo 5 rfl rfl rfl)) (lo 4 rfl rfl rfl) O_sub) S_int O_mod) S_args_nil) (O_append RF.inv)))
        (S_one (S_Expr (S_Meth1 (gets_list RF.inv PySem.F.slot_list_pop PySem.F.type_list_pop) (lo 1 rfl rfl rfl) (S_args_cons (lo 5 rfl rfl rfl) S_args_nil) (O_pop RF.inv))))))))
      S_nil (go_name _))
    (S_one (S_Return (S_Tuple RF.inv (S_args_cons (lo 2 rfl rfl rfl) (S_args_cons (S_CallU RF.inv hB (ng hB G.driven rfl rfl) hd (S_args_cons (lo 0 rfl rfl rfl) (S_args_cons (lo 3 rfl rfl rfl) S_args_nil)) Sd (rm.le (by decide) (by decide))) S_args_nil))))))))⟩
end Mine
end
section
open PySem PySem.W PyProof.Rows PySem.Calls PySem.Spec
set_option maxRecDepth 100000
namespace Mine
section
variable {prog : Program} {w : World} {A : Around} {κ : Kp} {L C : Addr} {names : List Str} {pins : List (Nat × Addr)} {env : Env} {mg mb : Str → Option Value} {K : Frag} {scope : Scope} {cl : List (Str × Addr)}
theorem lc (i : Nat) {x : Str} {pos : Pos} (e0 : E0 env L) (hk : scope.kind = .function) (hl : (compEnvC scope cl C env).kindOf x = some .local) (hi : names[i]? = some x) (hd : (x == ("__debug__" : Str)) = false := by decide) :
    S (model prog w) A (RF κ C names pins) VR (eval (.Name x pos) (compEnvC scope cl C env)) (aLoc i) := S_loc (compE0 e0 hk) hl hi hd
theorem tc (i : Nat) {x : Str} {px : Pos} (e0 : E0 env L) (hk : scope.kind = .function) (hl : (compEnvC scope cl C env).kindOf x = some .local) (hi : names[i]? = some x) : Op1 (model prog w) A (RF κ C names pins) UR (assign (.Name x px) (compEnvC scope cl C env)) (aSt i) := O_target (compE0 e0 hk) hl hi
theorem nbc (B : Base mg mb K κ) {x : Str} {v : Value} (e0 : E0 env L) (hv : mg x = none ∧ mb x = some v) (hk : scope.kind = .function) (hx : (compEnvC scope cl C env).kindOf x = some .globalImplicit) (hd : (x == ("__debug__" : Str)) = false := by decide) :
    NameIs (model prog w) A (RF κ C names pins) (compEnvC scope cl C env) x v := name_builtin RF.inv B hv.1 hv.2 hk hx e0.glo e0.blt hd
theorem ngc (B : Base mg mb K κ) {x : Str} {v : Value} (e0 : E0 env L) (hv : mg x = some v) (hk : scope.kind = .function) (hx : (compEnvC scope cl C env).kindOf x = some .globalImplicit) (hd : (x == ("__debug__" : Str)) = false := by decide) :
    NameIs (model prog w) A (RF κ C names pins) (compEnvC scope cl C env) x v := name_global RF.inv B hv hk hx e0.glo hd
end

abbrev nmOnce : List Str := [nm "wishes", nm "rows", nm "taken", nm "hour", nm "turn", nm "k", nm "place"]
noncomputable def once_d (Fq Fd : List AV → List AO → Option (AV × List AO)) : {f : AS → Option (AF × AS) // ∀ (prog : Program) (w : World) (mg mb : Str → Option Value) (K : Frag), Glo mg mb → FnAt K 55 → FnAt K 223 →
    SFun (model prog w) (Base mg mb K) 6 103 (fun vs => call (.ref 55) vs) Fq → SFun (model prog w) (Base mg mb K) 6 103 (fun vs => call (.ref 223) vs) Fd →
    BodyS (model prog w) (Base mg mb K) 10 200 (scopeOf (stN 21)) nmOnce (bodyOf (stN 21)) f} :=
  ⟨_, fun prog w mg mb K G hq hd Sq Sd A κ L a q cd hB rm =>
    S_cons (S_AssignComp [] [nm "wish"] rm.hh (Src_list (lo 0 rfl rfl rfl)) (fun κ' C le => tc 0 (envD_e0 rfl) rfl rfl rfl) (fun κ' C le => S_tests_nil) (fun κ' C le => S_str (l := [46]) rfl) (fun κ' le => so 1 rfl rfl rfl) (go_name _)
      (closureFor_none (by decide)) (by decide) rfl (by decide) (by decide) rfl rfl)
    (S_cons (S_Assign S_int (so 2 rfl rfl rfl))
    (S_cons (S_For rm.hh (Src_range (nb hB G.range rfl rfl) (S_args_cons S_int S_args_nil))
      (fun κ' le => ta 3 rfl rfl rfl)
      (fun κ' le =>
        S_cons (S_For rm.hh (Src_range (nb (hB.le le) G.range rfl rfl) (S_args_cons (S_CallB (nb (hB.le le) G.len rfl rfl) (S_args_cons (lo 1 rfl rfl rfl) S_args_nil) (O_len RF.inv)) S_args_nil))
          (fun κ' le' => ta 4 rfl rfl rfl)
          (fun κ' le' =>
            S_cons (S_Assign (S_BinOp (S_BinOp (S_CallB (nb ((hB.le le).le le') G.len rfl rfl) (S_args_cons (lo 1 rfl rfl rfl) S_args_nil) (O_len RF.inv)) S_int O_sub) (lo 4 rfl rfl rfl) O_sub) (so 5 rfl rfl rfl))
            (S_cons (S_Assign (S_BinOp (S_BinOp (S_BinOp (S_Sub RF.inv (lo 0 rfl rfl rfl) (lo 5 rfl rfl rfl)) (S_CallB (nb ((hB.le le).le le') G.len rfl rfl) (S_args_cons (S_Sub RF.inv (lo 1 rfl rfl rfl) (lo 5 rfl rfl rfl)) S_args_nil) (O_len RF.inv)) O_add) S_int O_sub) S_int O_mod) (so 6 rfl rfl rfl))
            (S_one (S_If (S_isTrue_and (S_isTrue_cmp (S_Sub RF.inv (S_Sub RF.inv (lo 1 rfl rfl rfl) (lo 5 rfl rfl rfl)) S_int) (S_str (l := [46]) rfl) O_eq)
                (S_isTrue_cmp (S_BinOp (S_BinOp (lo 2 rfl rfl rfl) (S_BinOp S_int (lo 6 rfl rfl rfl) O_pow) O_div) S_int O_mod) S_int O_eq))
              (S_cons (S_AugName (ld 2 rfl rfl rfl) (S_BinOp S_int (lo 6 rfl rfl rfl) O_pow) O_iadd (so 2 rfl rfl rfl))
              (S_one (S_SetSub RF.inv (S_BinOp (S_str (l := [112]) rfl) (S_Sub RF.inv (lo 1 rfl rfl rfl) (lo 5 rfl rfl rfl)) O_sadd) (lo 1 rfl rfl rfl) (lo 5 rfl rfl rfl))))
              S_nil))))
          S_nil (go_name _))
        (S_cons (S_If (S_isTrue_cmp
            (S_ListComp [] [nm "row"] rm.hh (Src_list (lo 1 rfl rfl rfl)) (fun κ' C le => tc 0 (envD_e0 rfl) rfl rfl rfl)
              (fun κ' C le => S_tests_one (S_isTrue_cmp (S_Sub RF.inv (lc 0 (envD_e0 rfl) rfl rfl rfl) S_int) (S_str (l := [46]) rfl) O_eq)) (fun κ' C le => lc 0 (envD_e0 rfl) rfl rfl rfl) (go_name _)
              (closureFor_none (by decide)) (by decide) rfl (by decide) (by decide) rfl)
            (S_List RF.inv S_args_nil) (O_leq RF.inv (Nat.lt_of_le_of_lt (Nat.le_add_right _ _) rm.un))) (S_one S_Break) S_nil)
        (S_one (S_Assign (S_Meth1 (gets_str PySem.F.slot_str_split PySem.F.type_str_split)
          (S_CallU RF.inv (hB.le le) (ng (hB.le le) G.quote rfl rfl) hq
            (S_args_cons (S_Meth1 (gets_str PySem.F.slot_str_join PySem.F.type_str_join) (S_Sub RF.inv (S_List RF.inv (S_args_cons (S_str (l := [10]) rfl) (S_args_cons (S_str (l := [13]) rfl) (S_args_cons (S_str (l := [13, 10]) rfl) S_args_nil)))) (S_BinOp (lo 3 rfl rfl rfl) S_int O_mod))
              (S_args_cons (lo 1 rfl rfl rfl) S_args_nil) (O_join RF.inv)) S_args_nil) Sq (rm.le (by decide) (by decide)))
          (S_args_cons (S_str (l := [13, 10]) rfl) S_args_nil) (O_split RF.inv)) (so 1 rfl rfl rfl)))))
      S_nil (go_name _))
    (S_one (S_Return (S_Tuple RF.inv (S_args_cons (lo 2 rfl rfl rfl) (S_args_cons (S_CallU RF.inv hB (ng hB G.driven rfl rfl) hd
      (S_args_cons (lo 0 rfl rfl rfl) (S_args_cons
        (S_ListComp [] [nm "row"] rm.hh (Src_list (lo 1 rfl rfl rfl)) (fun κ' C le => tc 0 (envD_e0 rfl) rfl rfl rfl) (fun κ' C le => S_tests_nil)
          (fun κ' C le => S_BinOp (S_CallB (nbc (hB.le le) (envD_e0 rfl) G.len rfl rfl) (S_args_cons (lc 0 (envD_e0 rfl) rfl rfl rfl) S_args_nil) (O_len RF.inv)) S_int O_sub) (go_name _)
          (closureFor_none (by decide)) (by decide) rfl (by decide) (by decide) rfl) S_args_nil)) Sd (rm.le (by decide) (by decide))) S_args_nil)))))))⟩
end Mine
end
section
open PySem PySem.W PyProof.Rows PySem.Calls PySem.Spec
set_option maxRecDepth 100000
namespace Mine
abbrev hdrs : List Nat := [95, 104, 101, 97, 100, 101, 114, 115]
theorem hdrs_eq : nm "_headers" = sOf hdrs := by decide

/-- what the class is, as the text's heap holds it -/
structure Cls (K : Frag) : Prop where
  makes : makesIn K 205 = true
  init : findIn K (.ref 205) "__init__" = some (some (.ref 97))
  initF : typeIn K (.ref 97) = some (.type "function")
  ga : findIn K (.ref 205) "__getattribute__" = some (some (.builtin "object.__getattribute__"))
  noGa : findIn K (.ref 205) "__getattr__" = some none
  hd : hasDictIn K 205 = true
  over : plainOver K 205 = true
  set : findIn K (.ref 205) "__setattr__" = some (some (.builtin "object.__setattr__"))
  own : findIn K (.ref 205) (nm "_headers") = some none
  taker : takerIn K 205 (nm "_headers") = some none
  conv : findIn K (.ref 205) (nm "_convert_string_type") = some (some (.ref 104)) ∧ typeIn K (.ref 104) = some (.type "function")
  get : findIn K (.ref 205) (nm "get") = some (some (.ref 152)) ∧ typeIn K (.ref 152) = some (.type "function")
  keys : findIn K (.ref 205) (nm "keys") = some (some (.ref 157)) ∧ typeIn K (.ref 157) = some (.type "function")
  setd : findIn K (.ref 205) (nm "setdefault") = some (some (.ref 195)) ∧ typeIn K (.ref 195) = some (.type "function")

section
variable {prog : Program} {w : World} {A : Around} {I : List Addr → AS → Heap → Prop} {env : Env} {κ : Kp} {mg mb : Str → Option Value} {K : Frag}

/-- an object of the class, its dict and what the dict holds -/
theorem inst_at {σ : List Addr} {H : List AO} {h : Heap} (R : RH κ σ H h) {i c d : Nat} {v : Value} (hv : VR σ (.ref i) v) (hi : H[i]? = some (.inst c d)) {ao : AO} (hd : H[d]? = some ao) :
    ∃ x dx od, v = .ref x ∧ σ[i]? = some x ∧ σ[d]? = some dx ∧ h.get? x = some (instObj c dx) ∧ h.get? dx = some od ∧ OR σ ao od ∧ InstAt h x (instObj c dx) c (some od) := by
  obtain ⟨x, o, rfl, h1, h2, dx, h3, rfl⟩ := R.read hi hv
  obtain ⟨dx', od, h4, h5, h6⟩ := R.objs d _ hd
  rw [h3] at h4; cases h4
  exact ⟨x, dx, od, rfl, h1, h3, h2, h5, h6, ⟨h2, rfl, rfl, h5⟩⟩
noncomputable def aAttr (fo : AS → Option (AV × AS)) : AS → Option (AV × AS) := seqA fo fun v st => onRef v fun i => onInst (nthR st.heap i) fun c d => onBool (Nat.beq c 205) (onAttrs (nthR st.heap d) fun k u => onBool (eqL k hdrs) (onRef u fun j => some (.ref j, st)))
theorem S_selfAttr (V : IsInv κ I) (hB : Base mg mb K κ) (C : Cls K) {o : PySem.Expr} {pos : Pos} {fo : AS → Option (AV × AS)} (ho : S (model prog w) A I VR (eval o env) fo)
    (he : eval (.Attribute o (nm "_headers") pos) env = (do
      let x ← eval o env
      standAt pos.atName
      let r ← holding [x] (getAttr x (nm "_headers") true)
      letTemporaryGo o x r
      pure r) := by with_unfolding_all rfl) : S (model prog w) A I VR (eval (.Attribute o (nm "_headers") pos) env) (aAttr fo) := by
  refine .mk fun σ st s b st' hI e Q hQ => ?_
  obtain ⟨v, st₁, e1, e⟩ := seqA_some e
  obtain ⟨i, rfl, e⟩ := onRef_some e
  obtain ⟨c, d, hi, e⟩ := onInst_some e
  obtain ⟨hc, e⟩ := onBool_some e
  obtain ⟨k, u, hd, e⟩ := onAttrs_some e
  obtain ⟨hk, e⟩ := onBool_some e
  obtain ⟨j, rfl, e⟩ := onRef_some e
  cases e
  rw [nthR_eq] at hi hd
  rw [Nat.beq_eq] at hc
  subst hc
  rw [eqL_eq, beq_iff_eq] at hk
  subst hk
  refine Attribute_any_ (ho.run σ st s _ _ hI e1 _ fun τ₁ h₁ t₁ v' I₁ r₁ => ?_) he
  obtain ⟨x, dx, od, rfl, _, _, _, _, hor, IA⟩ := inst_at (V.rh I₁) r₁ hi hd
  obtain ⟨hsh, t, n, u', rfl, hu⟩ := hor
  have hl : lookIn (nm "_headers") (dictOf [⟨hsh, .str (sOf hdrs) t, u'⟩] n) = some (some u') := by
    rw [lookIn_dict, hdrs_eq]
    have h1 : (Value.str (sOf hdrs) t).isStr (sOf hdrs) = true := by show ((sOf hdrs) == (sOf hdrs)) = true; simp
    have h2 : List.find? (fun e : DictEntry => e.key.isStr (sOf hdrs)) [⟨hsh, .str (sOf hdrs) t, u'⟩] = some ⟨hsh, .str (sOf hdrs) t, u'⟩ := List.find?_cons_of_pos h1
    unfold getL
    rw [h2]
  refine get_value (s := { s with heap := h₁, toks := t₁ }) (fun b o q => (V.rh I₁).keep _ _ (hB.k b o q)) IA C.ga (findObj_own C.hd C.own rfl hl) ?_ ?_
  · obtain ⟨a, _, rfl⟩ := hu; rfl
  · exact hQ τ₁ h₁ _ _ I₁ hu

/-- a method of the class, of such an object -/
noncomputable def isIns (v : AV) (st : AS) : Option Unit := onRef v fun i => onInst (nthR st.heap i) fun c d => onBool (Nat.beq c 205) (onAttrs (nthR st.heap d) fun k _ => onBool (eqL k hdrs) (some ()))
def GetsF (M : Model) (A : Around) (I : List Addr → AS → Heap → Prop) (chk : AV → AS → Option Unit) (name : Str) (f : Addr) : Prop :=
  ∀ σ st s o o' pl (Q : Value × List Value → Shared → Prop) (E : Value → Shared → Prop), I σ st s.heap → VR σ o o' → chk o st = some () → Q (.ref f, [o']) s → wpAny M A (getMethod o' name pl) Q E s
theorem gets_meth (V : IsInv κ I) (hB : Base mg mb K κ) (C : Cls K) {name : Str} {f : Addr} (hf : findIn K (.ref 205) name = some (some (.ref f)) ∧ typeIn K (.ref f) = some (.type "function")) (hne : (sOf hdrs == name) = false) : GetsF (model prog w) A I isIns name f := by
  intro σ st s o o' pl Q E hI hv hc hQ
  obtain ⟨i, rfl, hc⟩ := onRef_some hc
  obtain ⟨c, d, hi, hc⟩ := onInst_some hc
  obtain ⟨hcc, hc⟩ := onBool_some hc
  obtain ⟨k, u, hd, hc⟩ := onAttrs_some hc
  obtain ⟨hk, hc⟩ := onBool_some hc
  rw [nthR_eq] at hi hd
  rw [Nat.beq_eq] at hcc
  subst hcc
  rw [eqL_eq, beq_iff_eq] at hk
  subst hk
  obtain ⟨x, dx, od, rfl, _, _, _, _, hor, IA⟩ := inst_at (V.rh hI) hv hi hd
  obtain ⟨hsh, t, n, u', rfl, hu⟩ := hor
  refine method_fn (fun b o q => (V.rh hI).keep _ _ (hB.k b o q)) IA C.ga C.noGa hf.1 hf.2 ?_ hQ
  show (lookIn name (dictOf [⟨hsh, .str (sOf hdrs) t, u'⟩] n)).map _ = _
  have hl : lookIn name (dictOf [⟨hsh, .str (sOf hdrs) t, u'⟩] n) = some none := by
    rw [lookIn_dict]
    have h1 : (Value.str (sOf hdrs) t).isStr name = false := hne
    have h2 : List.find? (fun e : DictEntry => e.key.isStr name) [⟨hsh, .str (sOf hdrs) t, u'⟩] = none := by rw [List.find?_cons_of_neg (by simp [h1])]; rfl
    unfold getL
    rw [h2]
    rfl
  rw [hl]; rfl

noncomputable def aMethF (fo : AS → Option (AV × AS)) (fa : AS → Option (List AV × AS)) (F : List AV → List AO → Option (AV × List AO)) : AS → Option (AV × AS) :=
  seqA fo fun o st => onSome (isIns o st) fun _ => seqA fa (fun as => aCall F (o :: as)) st
theorem S_MethF {name : Str} {f : Addr} {o e0 : PySem.Expr} {rest : List PySem.Expr} {kws : List Keyword} {kvs : List (Str × Value)} {ap pos : Pos} {d u : Nat} {fo : AS → Option (AV × AS)} {fa : AS → Option (List AV × AS)} {F : List AV → List AO → Option (AV × List AO)} {pl : Sem Bool}
    (V : IsInv κ I) (hB : Base mg mb K κ) (hg : GetsF (model prog w) A I isIns name f) (hk : FnAt K f) (ho : S (model prog w) A I VR (eval o env) fo) (ha : S (model prog w) A I VRs (spliced (backTo pos (starEach (e0 :: rest) env))) fa)
    (hf : SFun (model prog w) (Base mg mb K) d u (fun vs => call (.ref f) vs kvs) F) (rm : Rm A d u)
    (hkw : ∀ (s : Shared) (Q : List Value → Shared → Prop) (E : Value → Shared → Prop), (∀ ks, ((backToKw pos (keywordEach kws env)).filterMap (·.1)).zip ks = kvs → Q ks s) → wpAny (model prog w) A (evalAll ((backToKw pos (keywordEach kws env)).map (·.2))) Q E s)
    (hall : (backToKw pos (keywordEach kws env)).all (·.1.isSome) = true := by rfl)
    (hs : starEach (e0 :: rest) env = (false, eval e0 env) :: starEach rest env := by rfl)
    (hc : eval (.Call (.Attribute o name ap) (e0 :: rest) kws pos) env = (do
          let ov ← eval o env
          standAt ap.atName
          let x ← holding [ov] (getMethod ov name pl)
          match x with
          | (f, first) => callWith pos f first (backTo pos (starEach (e0 :: rest) env)) (backToKw pos (keywordEach kws env))) := by rfl) :
    S (model prog w) A I VR (eval (.Call (.Attribute o name ap) (e0 :: rest) kws pos) env) (aMethF fo fa F) := by
  refine .mk fun σ st s b st' hI e Q hQ => ?_
  obtain ⟨r, st₁, e1, e⟩ := seqA_some e
  obtain ⟨_, hck, e⟩ := onSome_some e
  obtain ⟨as, st₂, e2, e⟩ := seqA_some e
  obtain ⟨ob, fd, hk1, hk2⟩ := hk
  refine methodCall_KW (ho.run σ st s r st₁ hI e1 _ fun τ₁ h₁ t₁ r' I₁ r₁ => hg _ _ _ _ _ _ _ _ I₁ r₁ hck ?_) hc
  rw [hs] at ha ⊢
  have hb : backTo pos ((false, eval e0 env) :: starEach rest env) = (false, _) :: backTo pos (starEach rest env) := rfl
  refine callWith_function_kw (o := ob) (fd := fd) (evalArgs_kw hall (ha.run _ _ _ _ _ I₁ e2 _ fun τ₂ h₂ t₂ as' I₂ r₂ => hkw _ _ _ fun ks hks => ⟨⟨(V.rh I₂).keep _ _ (hB.k _ _ hk1), hk2⟩, ?_⟩))
  rw [hks]
  refine O_fun V hB hf rm _ _ _ _ _ _ _ I₂ (.cons (r₁.mono τ₂) r₂) e _ fun τ₃ h₃ t₃ x I₃ r₃ => ?_
  rw [List.append_assoc, List.append_assoc] at I₃ r₃
  exact hQ _ _ _ _ I₃ r₃
theorem kw_none {kws : List Keyword} {pos : Pos} (h : backToKw pos (keywordEach kws env) = []) : ∀ (s : Shared) (Q : List Value → Shared → Prop) (E : Value → Shared → Prop), (∀ ks, ((backToKw pos (keywordEach kws env)).filterMap (·.1)).zip ks = [] → Q ks s) → wpAny (model prog w) A (evalAll ((backToKw pos (keywordEach kws env)).map (·.2))) Q E s := by
  intro s Q E hQ
  rw [h] at hQ ⊢
  exact wpAny_pure (hQ [] rfl)
theorem S_MethF0 {name : Str} {f : Addr} {o : PySem.Expr} {ap pos : Pos} {d u : Nat} {fo : AS → Option (AV × AS)} {F : List AV → List AO → Option (AV × List AO)} {pl : Sem Bool}
    (V : IsInv κ I) (hB : Base mg mb K κ) (hg : GetsF (model prog w) A I isIns name f) (hk : FnAt K f) (ho : S (model prog w) A I VR (eval o env) fo)
    (hf : SFun (model prog w) (Base mg mb K) d u (fun vs => call (.ref f) vs) F) (rm : Rm A d u)
    (hc : eval (.Call (.Attribute o name ap) [] [] pos) env = (do
          let ov ← eval o env
          standAt ap.atName
          let x ← holding [ov] (getMethod ov name pl)
          match x with
          | (f, first) => callWith pos f first (backTo pos (starEach [] env)) (backToKw pos (keywordEach [] env))) := by rfl) :
    S (model prog w) A I VR (eval (.Call (.Attribute o name ap) [] [] pos) env) (aMethF fo aNil F) := by
  refine .mk fun σ st s b st' hI e Q hQ => ?_
  obtain ⟨r, st₁, e1, e⟩ := seqA_some e
  obtain ⟨_, hck, e⟩ := onSome_some e
  obtain ⟨as, st₂, e2, e⟩ := seqA_some e
  cases e2
  obtain ⟨ob, fd, hk1, hk2⟩ := hk
  refine methodCall_KW (ho.run σ st s r st₁ hI e1 _ fun τ₁ h₁ t₁ r' I₁ r₁ => hg _ _ _ _ _ _ _ _ I₁ r₁ hck ?_) hc
  refine callWith_meth0 hk2 ((V.rh I₁).keep _ _ (hB.k _ _ hk1)) ?_
  refine O_fun V hB hf rm _ _ _ _ _ _ _ I₁ (.cons r₁ .nil) e _ fun τ₃ h₃ t₃ x I₃ r₃ => ?_
  rw [List.append_assoc] at I₃ r₃
  exact hQ _ _ _ _ I₃ r₃

/- what stands for a type -/
theorem S_typeIs {neg : Bool} {T : String} {x : PySem.Expr} {n1 n2 : Str} {p1 p2 p3 pos : Pos} {whole : Sem Value} {f : AS → Option (AV × AS)} {chk : AV → AS → Option Unit} (op : CmpOp) (hop : (op = .Is ∧ neg = false) ∨ (op = .IsNot ∧ neg = true))
    (hty : NameIs (model prog w) A I env n1 (.type "type")) (hT : NameIs (model prog w) A I env n2 (.type T)) (hf : S (model prog w) A I VRs (spliced (backTo p3 (starEach [x] env))) (aCons f aNil))
    (hchk : ∀ σ st (s : Shared) v v', I σ st s.heap → VR σ v v' → chk v st = some () → s.TypeIs v' T) (hnb : (Value.type T == Value.type "builtin_function_or_method") = false) (hTs : (Value.type T == Value.type T) = true)
    (hs : starEach [x] env = (false, eval x env) :: starEach [] env := by rfl) (hm' : ((backTo p3 (starEach [] env)).any fun x => x.1) = false := by rfl)
    (hc : eval (.Call (.Name n1 p1) [x] [] p3) env = (do
          let f ← eval (.Name n1 p1) env
          callWith p3 f [] (backTo p3 (starEach [x] env)) (backToKw p3 (keywordEach [] env))) := by rfl)
    (hm : behindInMarks op (.Name n2 p2) = false := by with_unfolding_all rfl) :
    S (model prog w) A I BR (isTrue (.Compare (.Call (.Name n1 p1) [x] [] p3) [op] [.Name n2 p2] pos) env whole) (seqA (aCons f aNil) fun as st => arg1 as fun v => onSome (chk v st) fun _ => some (notR neg, st)) := by
  refine .mk fun σ st s b st' hI e Q hQ => ?_
  obtain ⟨as, st₁, e1, e⟩ := seqA_some e
  obtain ⟨v, rfl, e⟩ := arg1_some e
  obtain ⟨_, hck, e⟩ := onSome_some e
  cases e
  refine wpAny_isTrue_Compare1 (Call_ (hty _ σ st s _ _ hI (PyProof.Rows.callWith_type1 (hf.run σ st s _ _ hI e1 _ fun τ₁ h₁ t₁ as' I₁ r₁ => ?_) hs hm')) hc) hm
  obtain ⟨v', rfl, hv⟩ := vrs1 r₁
  refine call_type_of (hchk _ _ { s with heap := h₁, toks := t₁ } _ _ I₁ hv hck) hnb ?_
  refine hT _ _ _ { s with heap := h₁, toks := t₁ } _ _ I₁ ?_
  rcases hop with ⟨rfl, rfl⟩ | ⟨rfl, rfl⟩
  · show wpAny _ A (isSame (.type T) (.type T) >>= fun b => pure (Value.bool b)) _ _ _
    refine wpAny_bind (wpAny_of_eq (show isSame (.type T) (.type T) = pure (Value.type T == Value.type T) from rfl) (wpAny_pure ?_))
    rw [hTs]
    exact wpAny_truthy_bool (hQ _ _ _ _ I₁ rfl)
  · show wpAny _ A (isSame (.type T) (.type T) >>= fun b => pure (Value.bool (!b))) _ _ _
    refine wpAny_bind (wpAny_of_eq (show isSame (.type T) (.type T) = pure (Value.type T == Value.type T) from rfl) (wpAny_pure ?_))
    rw [hTs]
    exact wpAny_truthy_bool (hQ _ _ _ _ I₁ rfl)
theorem chk_lst (V : IsInv κ I) : ∀ σ st (s : Shared) v v', I σ st s.heap → VR σ v v' → isLst v st = some () → s.TypeIs v' "list" := by
  intro σ st s v v' hI hv hc
  obtain ⟨a, rfl, hc⟩ := onRef_some hc
  obtain ⟨xs, hx, hc⟩ := onList_some hc
  rw [nthR_eq] at hx
  obtain ⟨l, o, rfl, hs, h4, vs, n, rfl, hvs⟩ := (V.rh hI).read hx hv
  exact ⟨_, h4, rfl⟩
theorem chk_txt : ∀ σ st (s : Shared) v v', I σ st s.heap → VR σ v v' → isTxt v st = some () → s.TypeIs v' "str" := by
  intro σ st s v v' hI hv hc
  obtain ⟨x, rfl, hc⟩ := onStr_some hc
  obtain ⟨t, rfl⟩ := hv
  exact typeIs_str s _ t
theorem S_true {k : Nat} {p : Pos} {env : Env} : S (model prog w) A I BR (isTrue (.Constant (.bool true) k p) env (eval (.Constant (.bool true) k p) env)) (okA true) := by
  refine .mk fun σ st s b st' hI e Q hQ => ?_
  cases e
  exact wpAny_isTrue_value (wpAny_Constant_bool (wpAny_truthy_bool (hQ [] s.heap s.toks _ (app_nil_heap hI) rfl))) rfl
end
end Mine
end
section
open PySem PySem.W PyProof.Rows PySem.Calls PySem.Spec
open PySem.Builtin PySem.Builtin.Re
set_option maxRecDepth 100000
namespace Mine
/-- one thing of the ledger turns, the rest stays but for the frame -/
theorem RH.setW {κ : Kp} {σ : List Addr} {H : List AO} {h h' : Heap} {L : Addr} (R : RH κ σ H h) (kL : κ L = none) (oL : L ∉ σ) {i : Nat} {a : Addr} {ao' : AO} {o' : Obj} (hi : σ[i]? = some a) (g : h'.get? a = some o') (k : ∀ c o, c ≠ a → c ≠ L → h.get? c = some o → h'.get? c = some o) (ho : OR σ ao' o') : RH κ σ (H.set i ao') h' where
  keep := fun c o e => by
    have hne : c ≠ a := fun q => by
      have := R.off a (List.mem_of_getElem? hi)
      rw [← q, e] at this; cases this
    have hneL : c ≠ L := fun q => by rw [q, kL] at e; cases e
    exact k c o hne hneL (R.keep c o e)
  off := R.off
  nd := R.nd
  len := by simp [R.len]
  objs := fun j ao e => by
    by_cases hj : j = i
    · subst hj
      have hl : j < H.length := by
        have := (List.getElem?_eq_some_iff.mp e).1
        simpa using this
      rw [List.getElem?_set_self hl] at e
      cases e
      exact ⟨a, o', hi, g, ho⟩
    · rw [List.getElem?_set_ne (Ne.symm hj)] at e
      obtain ⟨c, o, h1, h2, h3⟩ := R.objs j ao e
      have hne : c ≠ a := fun q => hj (nodup_get R.nd (q ▸ h1) hi)
      have hneL : c ≠ L := fun q => oL (q ▸ List.mem_of_getElem? h1)
      exact ⟨c, o, h1, k c o hne hneL h2, h3⟩

noncomputable def aSetA (fv fo : AS → Option (AV × AS)) : AS → Option (AF × AS) := seqA fv fun v => seqA fo fun o st => onRef o fun i => onInst (nthR st.heap i) fun c d => onBool (Nat.beq c 205) (onEd (nthR st.heap d) (some (.next, ⟨st.loc, st.cmp, setR st.heap (.attrs hdrs v) d⟩)))

section
variable {prog : Program} {w : World} {A : Around} {env : Env} {κ : Kp} {L : Addr} {names : List Str} {pins : List (Nat × Addr)} {mg mb : Str → Option Value} {K : Frag}
theorem S_SetAttr (hB : Base mg mb K κ) (C : Cls K) {o value : PySem.Expr} {pos' pos : Pos} {fv fo : AS → Option (AV × AS)} (hv : S (model prog w) A (RF κ L names pins) VR (eval value env) fv) (ho : S (model prog w) A (RF κ L names pins) VR (eval o env) fo)
    (hs : swapsWith value (some (.Attribute o (nm "_headers") pos')) pos.line env = pure false := by rfl) : S (model prog w) A (RF κ L names pins) FR (exec (.Assign [.Attribute o (nm "_headers") pos'] value pos) env) (aSetA fv fo) := by
  refine .mk fun σ st s b st' hI e Q hQ => ?_
  obtain ⟨v, st₁, e1, e⟩ := seqA_some e
  obtain ⟨x, st₂, e2, e⟩ := seqA_some e
  obtain ⟨i, rfl, e⟩ := onRef_some e
  obtain ⟨c, d, hi, e⟩ := onInst_some e
  obtain ⟨hc, e⟩ := onBool_some e
  obtain ⟨hd, e⟩ := onEd_some e
  cases e
  rw [nthR_eq] at hi hd
  rw [Nat.beq_eq] at hc
  subst hc
  refine plainObj_wpAny_Assign_Attribute (hv.run σ st s _ _ hI e1 _ fun τ₁ h₁ t₁ v' I₁ r₁ => ho.run _ _ _ _ _ I₁ e2 _ fun τ₂ h₂ t₂ x' I₂ r₂ => ?_) hs
  have r₁' := r₁.mono τ₂
  generalize hσ : σ ++ τ₁ ++ τ₂ = σ₂ at I₂ r₂ r₁'
  obtain ⟨xa, dx, od, rfl, hx1, hx2, hx3, hx4, hor, IA⟩ := inst_at I₂.rh r₂ hi hd
  obtain ⟨n, rfl⟩ := hor
  obtain ⟨m, hns, hm⟩ := I₂.ns
  have hdL : dx ≠ L := fun q => I₂.oL (q ▸ List.mem_of_getElem? hx2)
  have XK : K.In h₂ := fun b o q => I₂.rh.keep _ _ (hB.k b o q)
  let others : List (Addr × Obj) := (List.range h₂.objs.size).filterMap fun b => if b = dx ∨ b = L then none else (h₂.get? b).map fun o => (b, o)
  have hoth : ∀ p ∈ others, h₂.get? p.1 = some p.2 ∧ p.1 ≠ dx ∧ p.1 ≠ L := by
    intro p hp
    obtain ⟨b, _, hb⟩ := List.mem_filterMap.mp hp
    split at hb
    · cases hb
    · rename_i hne
      cases hg : h₂.get? b with
      | none => rw [hg] at hb; cases hb
      | some o => rw [hg] at hb; cases hb; exact ⟨hg, fun q => hne (.inl q), fun q => hne (.inr q)⟩
  have hin : ∀ b o, b ≠ dx → b ≠ L → h₂.get? b = some o → (b, o) ∈ others := fun b o h1 h2 hg =>
    List.mem_filterMap.mpr ⟨b, List.mem_range.mpr (Heap.lt_size hg), by rw [if_neg (fun q => q.elim h1 h2), hg]; rfl⟩
  have he0 : ∀ a, (({} : Heap)).get? a = none := fun a => by
    cases q : (({} : Heap)).get? a with
    | none => rfl
    | some o => exact absurd (Heap.lt_size q) (Nat.not_lt_zero _)
  have F : Fr {} L h₂ m := ⟨hns, fun b o q => (by rw [he0] at q; cases q), Nat.zero_le _⟩
  have N : News {} L h₂ ([] ++ (dx, dictOf [] n) :: others) := by
    intro p hp
    rcases List.mem_cons.mp hp with rfl | hp
    · exact ⟨hx4, hdL, he0 _⟩
    · exact ⟨(hoth p hp).1, (hoth p hp).2.2, he0 _⟩
  refine set_plain (s := { s with heap := h₂, toks := t₂ }) XK IA C.set (osa_dict (s := { s with heap := h₂, toks := t₂ + 1 }) (od' := dictOf [⟨PyData.keyHash w.params (nm "_headers"), .str (nm "_headers") (t₂ + 1), v'⟩] (putN (nm "_headers") [] n)) (es := [⟨PyData.keyHash w.params (nm "_headers"), .str (nm "_headers") (t₂ + 1), v'⟩]) (n := putN (nm "_headers") [] n)
    F N XK IA rfl C.over C.taker C.hd rfl (fun p hp => by cases hp) (fun p hp => (hoth p hp).2.1) (by rw [putName_dict]; rfl) rfl (by simp) fun h' F' N' => ?_)
  have hdx := (N' (dx, _) (List.mem_cons_self ..)).1
  have keep : ∀ c o, c ≠ dx → c ≠ L → h₂.get? c = some o → h'.get? c = some o := fun c o h1 h2 hg => (N' (c, o) (List.mem_cons_of_mem _ (hin c o h1 h2 hg))).1
  have RR := I₂.rh.setW I₂.kL I₂.oL hx2 (ao' := .attrs hdrs v) hdx keep ⟨_, t₂ + 1, _, v', by rw [hdrs_eq], r₁'⟩
  have I₃ : RF κ L names pins σ₂ ⟨st₂.loc, st₂.cmp, setR st₂.heap (.attrs hdrs v) d⟩ h' := by
    rw [setR_eq]
    exact ⟨RR, ⟨m, F'.ns, hm⟩, I₂.kL, I₂.oL, I₂.nd, I₂.pin⟩
  rw [← hσ, List.append_assoc] at I₃
  exact hQ _ h' _ _ I₃ rfl

/-- a new one -/
noncomputable def aNewI (F : List AV → List AO → Option (AV × List AO)) : AS → Option (AV × AS) := fun st => onSome (F [.ref (Nat.add (lenR st.heap) 1)] (appR st.heap [.edict, .inst 205 (lenR st.heap)])) fun p => onNone p.1 (some (.ref (Nat.add (lenR st.heap) 1), ⟨st.loc, st.cmp, p.2⟩))
theorem under_new {A : Around} {C : Addr} {rest : List Value} {kw : List (Str × Value)} : (A.under (.builtin "type.__call__" ⟨.ref C :: rest, kw⟩)).handled = A.handled ∧ (A.under (.builtin "type.__call__" ⟨.ref C :: rest, kw⟩)).depth = A.depth + 1 ∧ (A.under (.builtin "type.__call__" ⟨.ref C :: rest, kw⟩)).units = A.units + 1 := by
  refine ⟨rfl, ?_, ?_⟩
  · show A.depth + Code.weight _ = _
    have : Code.weight (.builtin "type.__call__" ⟨.ref C :: rest, kw⟩) = 1 := by kernel_rfl
    rw [this]
  · show A.units + Code.cUnits _ = _
    have : Code.cUnits (.builtin "type.__call__" ⟨.ref C :: rest, kw⟩) = 1 := by kernel_rfl
    rw [this]
theorem S_New {I : List Addr → AS → Heap → Prop} (V : IsInv κ I) (hB : Base mg mb K κ) (C : Cls K) {x : Str} {p pos : Pos} {d u : Nat} {F : List AV → List AO → Option (AV × List AO)} (hn : NameIs (model prog w) A I env x (.ref 205)) (hkeep : keepIn K (.ref 205) = true)
    (hf : SFunC (model prog w) (Base mg mb K) d u 97 [] F) (rm : Rm A (d + 1) (u + 1))
    (hc : eval (.Call (.Name x p) [] [] pos) env = (do
          let f ← eval (.Name x p) env
          callWith pos f [] (backTo pos (starEach [] env)) (backToKw pos (keywordEach [] env))) := by rfl) :
    S (model prog w) A I VR (eval (.Call (.Name x p) [] [] pos) env) (aNewI F) := by
  refine .mk fun σ st s b st' hI e Q hQ => ?_
  obtain ⟨⟨v, H⟩, e1, e⟩ := onSome_some e
  obtain ⟨hv, e⟩ := onNone_some e
  cases e
  have hv : v = .none := hv
  subst hv
  rw [lenR_eq, appR_eq] at e1
  have e9 : Nat.add st.heap.length 1 = st.heap.length + 1 := rfl
  rw [lenR_eq, e9] at hQ
  rw [e9] at e1
  have R := V.rh hI
  have XK : K.In s.heap := fun b o q => R.keep _ _ (hB.k b o q)
  refine Call_ (hn _ σ st s _ _ hI (callWith_K0 XK hkeep ?_)) hc
  refine wpAny_call ?_
  show codeAny _ _ (.call (.ref 205) ⟨[], []⟩) _ _
  obtain ⟨U1, U2, U3⟩ := under_new (A := A) (C := 205) (rest := []) (kw := [])
  have R1 := R.alloc (ao := .edict) (o := emptyDict) ⟨0, rfl⟩ rfl
  have R2 := R1.alloc (ao := .inst 205 st.heap.length) (o := instObj 205 s.heap.objs.size) ⟨s.heap.objs.size, by rw [R.len]; simp, rfl⟩ rfl
  have hsz : (s.heap.push emptyDict).objs.size = s.heap.objs.size + 1 := Heap.size_push ..
  rw [hsz] at R2
  refine make_core (h := s.heap) (makes_of XK C.makes) (looks_findIn XK C.init) (fun self => bind_fn XK self C.initF) (.inr ⟨rfl, rfl⟩) ?_
  have hself : VR (σ ++ [s.heap.objs.size] ++ [s.heap.objs.size + 1]) (.ref (st.heap.length + 1)) (.ref (s.heap.objs.size + 1)) := ⟨_, by rw [R.len]; simp, rfl⟩
  refine codeAny_mono (hf _ κ [.ref (st.heap.length + 1)] [.ref (s.heap.objs.size + 1)] _ (st.heap ++ [.edict, .inst 205 st.heap.length]) { s with heap := (s.heap.push emptyDict).push (instObj 205 s.heap.objs.size) } .none H
    (by rw [U1]; exact rm.hh) (by rw [U2]; have := rm.dp; omega) (by rw [U3]; have := rm.un; omega) hB (by simpa using R2) (.cons hself .nil) e1 (fun v' s' => v' = .none ∧ Q (.ref (s.heap.objs.size + 1)) s') fun τ h' tk' v' R' keep fr hv' => ⟨hv', ?_⟩) fun r s' hr => ?_
  · have step := V.step hI (τ := [s.heap.objs.size] ++ [s.heap.objs.size + 1] ++ τ) (H' := H) (h' := h') (by simpa [List.append_assoc] using R') (fun b o hb q => ?_) (fun a ha => ?_)
    · refine hQ _ h' tk' _ step ?_
      have := (hself.mono τ)
      simpa [List.append_assoc] using this
    · have hb' : b ∉ σ ++ [s.heap.objs.size] ++ [s.heap.objs.size + 1] := by
        intro hm
        have hlt := Heap.lt_size q
        rcases List.mem_append.mp hm with h1 | h1
        · rcases List.mem_append.mp h1 with h2 | h2
          · exact hb h2
          · rw [List.mem_singleton.mp h2] at hlt; exact Nat.lt_irrefl _ hlt
        · rw [List.mem_singleton.mp h1] at hlt; exact absurd hlt (Nat.not_lt.mpr (Nat.le_succ _))
      exact keep b o hb' (Heap.get?_push_of_some _ (Heap.get?_push_of_some _ q))
    · have hge : ∀ a, s.heap.objs.size ≤ a → s.heap.get? a = none := fun a hle => by
        cases q : s.heap.get? a with
        | none => rfl
        | some o => exact absurd (Heap.lt_size q) (Nat.not_lt.mpr hle)
      rcases List.mem_append.mp ha with h1 | h1
      · rcases List.mem_append.mp h1 with h2 | h2
        · rw [List.mem_singleton.mp h2]; exact hge _ (Nat.le_refl _)
        · rw [List.mem_singleton.mp h2]; exact hge _ (Nat.le_succ _)
      · have := fr a h1
        cases q : s.heap.get? a with
        | none => rfl
        | some o =>
          have h9 : ((s.heap.push emptyDict).push (instObj 205 s.heap.objs.size)).get? a = some o := Heap.get?_push_of_some _ (Heap.get?_push_of_some _ q)
          have this' : ((s.heap.push emptyDict).push (instObj 205 s.heap.objs.size)).get? a = none := this
          rw [h9] at this'; cases this'
  · rcases r with er | (_ | _ | _ | _) <;> first | exact hr | exact hr.elim
end
end Mine
end
section
open PySem PySem.W PyProof.Rows PySem.Calls PySem.Spec
open PySem.Builtin PySem.Builtin.Re
set_option maxRecDepth 100000
namespace Mine
abbrev codeN : Array Nat := #[14, 10, 4, 1, 1, 22, 0, 31, 16, 127, 0, 13, 7, 22, 0, 31, 16, 127, 0, 1]
abbrev codeV : Array Nat := #[14, 14, 4, 1, 1, 9, 4294966783, 0, 0, 2147483648, 0, 0, 0, 0, 0, 13, 11, 9, 4294966783, 0, 0, 2147483648, 0, 0, 0, 0, 0, 1]
def failsIn (code : Array Nat) (x : List Nat) : Bool := match (Sre.M.runFor 4 (Sre.forSearch code x.toArray 0 0 x.toArray.size false)).outcome with
  | some .failed => true
  | _ => false
theorem failsIn_ends {code : Array Nat} {x : List Nat} (h : failsIn code x = true) : Ends (Sre.forSearch code x.toArray 0 0 x.toArray.size false) none 4 := by
  refine ⟨4, Nat.le_refl _, ?_⟩
  unfold failsIn at h
  split at h
  · assumption
  · cases h
theorem words_clear : ∀ p ∈ lowTab, failsIn codeN p.1 = true := by decide +kernel
def digTab : List (List Nat × List Nat) := [([48], []), ([49], []), ([50], []), ([51], []), ([52], []), ([53], []), ([54], [])]
theorem digits_clear : ∀ p ∈ digTab, failsIn codeV p.1 = true := by decide +kernel

section
variable {prog : Program} {w : World} {A : Around} {E : Value → Shared → Prop} {s : Shared}
theorem named_search (a : Value) : reNamed "re.Pattern.search" "search" ["string", "pos", "endpos"] 1 [a] [] = pure [some a, none, none] := by
  unfold reNamed
  rfl
theorem search_call {p : Addr} {code : Array Nat} {x : List Nat} {t : Tok} (hx : x.length ≤ 1000) (he : Ends (Sre.forSearch code x.toArray 0 0 x.toArray.size false) none 4) (hp : IsPat s.heap p code) {Q : Value → Shared → Prop} (hQ : Q .none s) :
    wpAny (model prog w) A (call (.builtin "re.Pattern.search") [.ref p, .str (sOf x) t]) Q E s := by
  have hT : s.TypeIs (.ref p) "re.Pattern" := by
    obtain ⟨fv, ct, t2, t6, o5, its, n5, h1, _⟩ := hp.ex
    exact ⟨_, h1, rfl⟩
  refine call_meets slot_search hT entry_search (args_search _ _) (S := fun A R s => IsPat s.heap p code ∧ R (.ok (.ret .none)) s) ?_ ⟨hp, hQ⟩
  intro prog w A R s ⟨hp, hR⟩
  obtain ⟨fv, ct, t2, t6, o5, its, n5, h1, h2, h3, h4, h5, _, h6, h7⟩ := hp.ex
  unfold Builtin.«re.Pattern.search» reTarget
  dsimp only
  refine wpAny_bind (wpAny_bind (wpAny_of_eq (named_search _) ?_))
  refine wpAny_bind (wpAny_pure (wpAny_bind (wpAny_pure ?_)))
  refine wpAny_bind (wpAny_fieldsOf h1 rfl ?_)
  refine wpAny_bind (wpAny_of_eq (show reTextOf (.str (sOf x) t) = pure ((sOf x).cps, 0) from rfl) ?_)
  dsimp only
  rw [h3, h2, h4]
  refine wpAny_bind (wpAny_of_eq (show reNoCollectionInside (.str (sOf x) t) 0 = pure () from rfl) ?_)
  refine wpAny_bind (raw_items h5 h6 ?_)
  rw [h7]
  refine wpAny_pure ?_
  unfold reAnswer
  have hlim : min (Int.toNat (2 ^ 63 - 1)) x.toArray.size = x.toArray.size := by
    rw [Nat.min_eq_right]
    have : x.toArray.size = x.length := by simp
    rw [this]
    have e : Int.toNat (2 ^ 63 - 1) = 9223372036854775807 := by decide
    rw [e]; omega
  have hpos : min (Int.toNat 0) x.toArray.size = 0 := by simp
  refine wpAny_bind (run_none (B := 4) (by decide) ?_ ?_)
  · show Ends (Sre.forSearch code x.toArray 0 (min (Int.toNat 0) x.toArray.size) (min (Int.toNat (2 ^ 63 - 1)) x.toArray.size) false) none 4
    rw [hlim, hpos]
    exact he
  · exact wpAny_pure hR
end

noncomputable def okSearch (b : Bool) (x : List Nat) : Bool := @Bool.rec (fun _ => Bool) (@Option.rec (List Nat) (fun _ => Bool) false (fun _ => true) (tabL digTab x)) (@Option.rec (List Nat) (fun _ => Bool) false (fun _ => true) (tabL lowTab x)) b
theorem okSearch_ends {b : Bool} {x : List Nat} (h : okSearch b x = true) : Ends (Sre.forSearch (if b = true then codeN else codeV) x.toArray 0 0 x.toArray.size false) none 4 ∧ x.length ≤ 1000 := by
  have len1 : ∀ p ∈ lowTab, p.1.length ≤ 1000 := by decide
  have len2 : ∀ p ∈ digTab, p.1.length ≤ 1000 := by decide
  cases b with
  | true =>
    have h' : @Option.rec (List Nat) (fun _ => Bool) false (fun _ => true) (tabL lowTab x) = true := h
    cases e : tabL lowTab x with
    | none => rw [e] at h'; cases h'
    | some y => exact ⟨failsIn_ends (words_clear _ (tabL_mem e)), len1 _ (tabL_mem e)⟩
  | false =>
    have h' : @Option.rec (List Nat) (fun _ => Bool) false (fun _ => true) (tabL digTab x) = true := h
    cases e : tabL digTab x with
    | none => rw [e] at h'; cases h'
    | some y => exact ⟨failsIn_ends (digits_clear _ (tabL_mem e)), len2 _ (tabL_mem e)⟩

noncomputable def onTf {β : Type} (a : AV) (k : Bool → Option β) : Option β := @AV.rec (fun _ => Option β) none k (fun _ => none) (fun _ => none) (fun _ => none) a
theorem onTf_some {β : Type} {a : AV} {k : Bool → Option β} {r : β} (h : onTf a k = some r) : ∃ b, a = .bool b ∧ k b = some r := by
  cases a <;> first | exact ⟨_, rfl, h⟩ | cases h
/-- the checker's block: which pattern, does it find, the answer -/
noncomputable def aConv : AS → Option (AF × AS) := seqA (aLoc 2) fun nmv => seqA (aLoc 1) fun v st => onTf nmv fun b => onStr v fun x => onBool (okSearch b x) (some (.ret (.str x), st))

structure RePats (K : Frag) : Prop where
  name : ∀ κ : Kp, (∀ a o, K.lookup a = some o → κ a = some o) → KPat κ 77 codeN
  value : ∀ κ : Kp, (∀ a o, K.lookup a = some o → κ a = some o) → KPat κ 82 codeV

section
variable {prog : Program} {w : World} {A : Around} {κ : Kp} {L : Addr} {mg mb : Str → Option Value} {K : Frag} {sc : Scope} {q : Str} {a : Addr} {cd : Value}
abbrev nmConv : List Str := [nm "self", nm "value", nm "name"]
theorem S_conv (hB : Base mg mb K κ) (G : Glo mg mb) (P : RePats K) {p1 p2 p3 p4 p5 p6 p7 p8 p9 p10 p11 p12 p13 : Pos} {body : List Stmt} {pl : Sem Bool}
    (hk : sc.kind = .function) (hreg : (envD sc q L a cd).kindOf (nm "regex") = some .local) (hval : (envD sc q L a cd).kindOf (nm "value") = some .local) (hnam : (envD sc q L a cd).kindOf (nm "name") = some .local)
    (hg1 : (envD sc q L a cd).kindOf (nm "_name_disallowed_re") = some .globalImplicit) (hg2 : (envD sc q L a cd).kindOf (nm "_value_disallowed_re") = some .globalImplicit)
    (hc : eval (.Call (.Attribute (.Name (nm "regex") p7) (nm "search") p8) [.Name (nm "value") p9] [] p10) (envD sc q L a cd) = (do
          let ov ← eval (.Name (nm "regex") p7) (envD sc q L a cd)
          standAt p8.atName
          let x ← holding [ov] (getMethod ov (nm "search") pl)
          match x with
          | (f, first) => callWith p10 f first (backTo p10 (starEach [.Name (nm "value") p9] (envD sc q L a cd))) (backToKw p10 (keywordEach [] (envD sc q L a cd)))) := by rfl) :
    S (model prog w) A (RF κ L nmConv []) FR (execs [.Assign [.Name (nm "regex") p1] (.IfExp (.Name (nm "name") p2) (.Name (nm "_name_disallowed_re") p3) (.Name (nm "_value_disallowed_re") p4) p5) p6,
      .If (.Call (.Attribute (.Name (nm "regex") p7) (nm "search") p8) [.Name (nm "value") p9] [] p10) body [] p11, .Return (some (.Name (nm "value") p12)) p13] (envD sc q L a cd)) aConv := by
  refine .mk fun σ st s b st' hI e Q hQ => ?_
  obtain ⟨nv, st₁, e1, e⟩ := seqA_some e
  obtain ⟨v, st₂, e2, e⟩ := seqA_some e
  obtain ⟨bb, rfl, e⟩ := onTf_some e
  obtain ⟨x, rfl, e⟩ := onStr_some e
  obtain ⟨hok, e⟩ := onBool_some e
  cases e
  have q1 := aLoc_some e1
  obtain ⟨rfl, l1⟩ := q1
  have q2 := aLoc_some e2
  obtain ⟨rfl, l2⟩ := q2
  obtain ⟨hends, hlen⟩ := okSearch_ends hok
  -- the name, as the frame holds it
  have load : ∀ (x : Str) (i : Nat) (px : Pos) (s : Shared) (av : AV) (Q E : Value → Shared → Prop), RF κ L nmConv [] σ st' s.heap → (envD sc q L a cd).kindOf x = some .local → nmConv[i]? = some x → (x == ("__debug__" : Str)) = false → st'.loc[i]? = some (some av) → (∀ v', VR σ av v' → Q v' s) →
      wpAny (model prog w) A (eval (.Name x px) (envD sc q L a cd)) Q E s := by
    intro x i px s av Q E hI hl hi hd hloc hq
    obtain ⟨m, hn, hm⟩ := hI.ns
    obtain ⟨v', h1, h2⟩ := hm i x _ hi hloc
    exact wpAny_Name (wpAny_loadName_local hk hl hn h1 (hq v' h2)) hd
  have pat : ∃ pa, (∀ s' : Shared, RF κ L nmConv [] σ st' s'.heap → ∀ Q E : Value → Shared → Prop, Q (.ref pa) s' → wpAny (model prog w) A (if bb = true then eval (.Name (nm "_name_disallowed_re") p3) (envD sc q L a cd) else eval (.Name (nm "_value_disallowed_re") p4) (envD sc q L a cd)) Q E s') ∧ KPat κ pa (if bb = true then codeN else codeV) := by
    cases bb with
    | true => exact ⟨77, fun s' hI' Q E hq => ng (prog := prog) (w := w) (A := A) (names := nmConv) (pins := []) hB G.nameRe hk hg1 (by decide) p3 σ st' s' Q E hI' hq, P.name κ hB.k⟩
    | false => exact ⟨82, fun s' hI' Q E hq => ng (prog := prog) (w := w) (A := A) (names := nmConv) (pins := []) hB G.valueRe hk hg2 (by decide) p4 σ st' s' Q E hI' hq, P.value κ hB.k⟩
  obtain ⟨pa, hpa, hkp⟩ := pat
  refine wpAny_execs_cons (wpAny_Assign_Name (wpAny_IfExp (wpAny_isTrue_value (load (nm "name") 2 p2 s _ _ _ hI hnam rfl (by decide) l1 fun v' hv' => ?_) rfl)) rfl)
  cases hv'
  refine wpAny_truthy_bool ?_
  have step : ∀ Qx Ex, wpAny (model prog w) A (if bb = true then eval (.Name (nm "_name_disallowed_re") p3) (envD sc q L a cd) else eval (.Name (nm "_value_disallowed_re") p4) (envD sc q L a cd)) Qx Ex s → wpAny (model prog w) A (if bb = true then eval (.Name (nm "_name_disallowed_re") p3) (envD sc q L a cd) else eval (.Name (nm "_value_disallowed_re") p4) (envD sc q L a cd)) Qx Ex s := fun _ _ h => h
  have turn : ∀ (Qx Ex : Value → Shared → Prop), wpAny (model prog w) A (if bb = true then eval (.Name (nm "_name_disallowed_re") p3) (envD sc q L a cd) else eval (.Name (nm "_value_disallowed_re") p4) (envD sc q L a cd)) Qx Ex s → (if bb = true then wpAny (model prog w) A (eval (.Name (nm "_name_disallowed_re") p3) (envD sc q L a cd)) Qx Ex s else wpAny (model prog w) A (eval (.Name (nm "_value_disallowed_re") p4) (envD sc q L a cd)) Qx Ex s) := by
    intro Qx Ex h
    cases bb <;> exact h
  refine turn _ _ (hpa s hI _ _ ?_)
  obtain ⟨m, hn, hm⟩ := hI.ns
  refine wpAny_storeName_local hreg hn (fun h' hn' hs' => ?_) (by rw [hk]; rfl)
  have hI' : RF κ L nmConv [] σ st' h' := by
    refine ⟨hI.rh.off1 hI.oL hI.kL hs'.extBut, ⟨_, hn', ?_⟩, hI.kL, hI.oL, hI.nd, hI.pin⟩
    intro i y u hi hu
    obtain ⟨v', h1, h2⟩ := hm i y u hi hu
    refine ⟨v', ?_, h2⟩
    have hne : y ≠ nm "regex" := by
      have : ∀ z ∈ nmConv, z ≠ nm "regex" := by decide
      exact this y (List.mem_of_getElem? hi)
    dsimp only
    rw [if_neg hne]; exact h1
  refine wpAny_execs_cons (wpAny_If (wpAny_isTrue_value (methodCall_KW (wpAny_Name (wpAny_loadName_local hk hreg hn' (if_pos rfl) ?_) (by decide)) hc) rfl))
  obtain ⟨fv, ct, t2, t6, o5, its, n5, g1, _⟩ := (hkp.at hI'.rh.keep).ex
  refine getMethod_builtin (T := "re.Pattern") ⟨_, g1, rfl⟩ plainAttrs_pat slot_search type_search (fun b e => by cases e; exact ⟨_, g1, rfl⟩) ?_
  refine PyProof.Rows.callWith_method1 (spliced_more (load (nm "value") 1 p9 _ _ _ _ hI' hval rfl (by decide) l2 fun v' hv' => spliced_none ?_) rfl) rfl rfl
  obtain ⟨t, rfl⟩ := hv'
  refine search_call hlen hends (hkp.at hI'.rh.keep) ?_
  refine truthy_none ?_
  rw [if_neg Bool.false_ne_true]
  refine wpAny_execs_nil ?_
  refine wpAny_execs_cons (wpAny_Return_some (load (nm "value") 1 p12 _ _ _ _ hI' hval rfl (by decide) l2 fun v' hv' => ?_))
  exact hQ [] h' _ _ (app_nil_heap hI') ⟨v', rfl, hv'.mono []⟩
end
end Mine
end
section
open PySem PySem.W PyProof.Rows PySem.Calls PySem.Spec
set_option maxRecDepth 100000
namespace Mine
def clsBody : Stmt → List Stmt
  | .ClassDef _ _ _ b _ _ _ _ _ _ _ => b
  | _ => []
def clsSt (i : Nat) : Stmt := match (clsBody (stN 15))[i]? with
  | some s => s
  | none => .Pass ⟨0, 0, 0, 0⟩

section
variable {prog : Program} {w : World} {A : Around} {I : List Addr → AS → Heap → Prop} {env : Env} {κ : Kp}
theorem kw_one {x : Str} {b : Bool} {k : Nat} {p1 p2 pos : Pos} : ∀ (s : Shared) (Q : List Value → Shared → Prop) (E : Value → Shared → Prop),
    (∀ ks, ((backToKw pos (keywordEach [⟨some x, .Constant (.bool b) k p1, p2⟩] env)).filterMap (·.1)).zip ks = [(x, .bool b)] → Q ks s) → wpAny (model prog w) A (evalAll ((backToKw pos (keywordEach [⟨some x, .Constant (.bool b) k p1, p2⟩] env)).map (·.2))) Q E s := by
  intro s Q E hQ
  refine wpAny_evalAll_cons (wpAny_bind (wpAny_Constant_bool (wpAny_bind (wpAny_standAt (wpAny_pure (wpAny_evalAll_nil (hQ [.bool b] ?_)))))))
  rfl
end

noncomputable def conv_d : {f : AS → Option (AF × AS) // ∀ (prog : Program) (w : World) (mg mb : Str → Option Value) (K : Frag), Glo mg mb → RePats K → BodyS (model prog w) (Base mg mb K) 5 100 (scopeOf (clsSt 1)) nmConv (bodyOf (clsSt 1)) f} :=
  ⟨_, fun prog w mg mb K G P A κ L a q cd hB rm =>
    S_cons (S_If (S_typeIs .Is (.inl ⟨rfl, rfl⟩) (nb hB G.type rfl rfl) (nb hB G.str rfl rfl) (S_args_cons (lo 1 rfl rfl rfl) S_args_nil) chk_txt rfl rfl) (S_conv hB G P rfl rfl rfl rfl rfl rfl) S_nil) S_never⟩

abbrev nmInit : List Str := [nm "self", nm "headers", nm "k", nm "v"]
noncomputable def init_d : {f : AS → Option (AF × AS) // ∀ (prog : Program) (w : World) (mg mb : Str → Option Value) (K : Frag), Glo mg mb → Cls K → BodyS (model prog w) (Base mg mb K) 5 100 (scopeOf (clsSt 0)) nmInit (bodyOf (clsSt 0)) f} :=
  ⟨_, fun prog w mg mb K G C A κ L a q cd hB rm =>
    S_cons (S_Assign (S_IfExp (S_isTrue_cmp (lo 1 rfl rfl rfl) S_none O_isnot) (lo 1 rfl rfl rfl) (S_List RF.inv S_args_nil)) (so 1 rfl rfl rfl))
    (S_cons (S_If (S_typeIs .IsNot (.inr ⟨rfl, rfl⟩) (nb hB G.type rfl rfl) (nb hB G.list rfl rfl) (S_args_cons (lo 1 rfl rfl rfl) S_args_nil) (chk_lst RF.inv) rfl rfl) S_never S_nil)
    (S_cons (S_SetAttr hB C (lo 1 rfl rfl rfl) (lo 0 rfl rfl rfl))
    (S_one (S_If S_true (S_one (S_For rm.hh (Src_list (lo 1 rfl rfl rfl)) (fun κ' le => O_tup2 rm.hh (i := 2) (j := 3) (envD_e0 rfl) rfl rfl rfl rfl) (fun κ' le => S_never) S_nil go_tup)) S_nil))))⟩

abbrev nmGet : List Str := [nm "self", nm "name", nm "default", nm "k", nm "v"]
noncomputable def get_d (Fc : List AV → List AO → Option (AV × List AO)) : {f : AS → Option (AF × AS) // ∀ (prog : Program) (w : World) (mg mb : Str → Option Value) (K : Frag), Glo mg mb → Cls K → FnAt K 104 →
    SFun (model prog w) (Base mg mb K) 6 103 (fun vs => call (.ref 104) vs [(nm "name", .bool true)]) Fc → BodyS (model prog w) (Base mg mb K) 10 200 (scopeOf (clsSt 8)) nmGet (bodyOf (clsSt 8)) f} :=
  ⟨_, fun prog w mg mb K G C hc Sc A κ L a q cd hB rm =>
    S_cons (S_Assign (S_MethF RF.inv hB (gets_meth RF.inv hB C C.conv (by decide)) hc (lo 0 rfl rfl rfl) (S_args_cons (S_Meth0 (gets_str PySem.F.slot_str_lower PySem.F.type_str_lower) (lo 1 rfl rfl rfl) O_lower) S_args_nil) Sc (rm.le (by decide) (by decide)) kw_one) (so 1 rfl rfl rfl))
    (S_cons (S_For rm.hh (Src_list (S_selfAttr RF.inv hB C (lo 0 rfl rfl rfl))) (fun κ' le => O_tup2 rm.hh (i := 3) (j := 4) (envD_e0 rfl) rfl rfl rfl rfl)
      (fun κ' le => S_one (S_If (S_isTrue_cmp (S_Meth0 (gets_str PySem.F.slot_str_lower PySem.F.type_str_lower) (lo 3 rfl rfl rfl) O_lower) (lo 1 rfl rfl rfl) O_eq) (S_one (S_Return (lo 4 rfl rfl rfl))) S_nil))
      S_nil go_tup)
    (S_one (S_Return (lo 2 rfl rfl rfl))))⟩

abbrev nmKeys : List Str := [nm "self"]
noncomputable def keys_d : {f : AS → Option (AF × AS) // ∀ (prog : Program) (w : World) (mg mb : Str → Option Value) (K : Frag), Glo mg mb → Cls K → BodyS (model prog w) (Base mg mb K) 5 100 (scopeOf (clsSt 9)) nmKeys (bodyOf (clsSt 9)) f} :=
  ⟨_, fun prog w mg mb K G C A κ L a q cd hB rm =>
    S_one (S_Return (S_ListComp [] [nm "k", nm "v"] rm.hh (Src_list (S_selfAttr RF.inv hB C (lo 0 rfl rfl rfl))) (fun κ' C' le => O_tup2 rm.hh (i := 0) (j := 1) (compE0 (envD_e0 rfl) rfl) rfl rfl rfl rfl) (fun κ' C' le => S_tests_nil)
      (fun κ' C' le => lc 0 (envD_e0 rfl) rfl rfl rfl) go_tup (closureFor_none (by decide)) (by decide) rfl (by decide) (by decide) rfl))⟩

abbrev nmSetd : List Str := [nm "self", nm "name", nm "value", nm "result"]
noncomputable def setd_d (Fg Fct Fcf : List AV → List AO → Option (AV × List AO)) : {f : AS → Option (AF × AS) // ∀ (prog : Program) (w : World) (mg mb : Str → Option Value) (K : Frag), Glo mg mb → Cls K → FnAt K 104 → FnAt K 152 →
    SFun (model prog w) (Base mg mb K) 11 203 (fun vs => call (.ref 152) vs []) Fg → SFun (model prog w) (Base mg mb K) 6 103 (fun vs => call (.ref 104) vs [(nm "name", .bool true)]) Fct →
    SFun (model prog w) (Base mg mb K) 6 103 (fun vs => call (.ref 104) vs [(nm "name", .bool false)]) Fcf → BodyS (model prog w) (Base mg mb K) 15 300 (scopeOf (clsSt 15)) nmSetd (bodyOf (clsSt 15)) f} :=
  ⟨_, fun prog w mg mb K G C hc hg Sg St Sf A κ L a q cd hB rm =>
    S_cons (S_Assign (S_MethF RF.inv hB (gets_meth RF.inv hB C C.get (by decide)) hg (lo 0 rfl rfl rfl) (S_args_cons (lo 1 rfl rfl rfl) S_args_nil) Sg (rm.le (by decide) (by decide)) (kw_none rfl)) (so 3 rfl rfl rfl))
    (S_one (S_If (S_isTrue_cmp (lo 3 rfl rfl rfl) S_none O_is)
      (S_cons (S_Expr (S_Meth1 (gets_list RF.inv PySem.F.slot_list_append PySem.F.type_list_append) (S_selfAttr RF.inv hB C (lo 0 rfl rfl rfl)) (S_args_cons (S_Tuple RF.inv
        (S_args_cons (S_MethF RF.inv hB (gets_meth RF.inv hB C C.conv (by decide)) hc (lo 0 rfl rfl rfl) (S_args_cons (lo 1 rfl rfl rfl) S_args_nil) St (rm.le (by decide) (by decide)) kw_one)
        (S_args_cons (S_MethF RF.inv hB (gets_meth RF.inv hB C C.conv (by decide)) hc (lo 0 rfl rfl rfl) (S_args_cons (lo 2 rfl rfl rfl) S_args_nil) Sf (rm.le (by decide) (by decide)) kw_one) S_args_nil))) S_args_nil) (O_append RF.inv)))
      (S_one (S_Return (lo 2 rfl rfl rfl))))
      (S_one (S_Return (lo 3 rfl rfl rfl)))))⟩

abbrev nmTable : List Str := [nm "wishes", nm "table", nm "words", nm "drives", nm "k", nm "drive", nm "word"]
noncomputable def table_d (Fp Fs Fd : List AV → List AO → Option (AV × List AO)) : {f : AS → Option (AF × AS) // ∀ (prog : Program) (w : World) (mg mb : Str → Option Value) (K : Frag), Glo mg mb → Cls K → FnAt K 72 → FnAt K 195 → FnAt K 223 →
    SFun (model prog w) (Base mg mb K) 6 103 (fun vs => call (.ref 72) vs) Fp → SFun (model prog w) (Base mg mb K) 16 303 (fun vs => call (.ref 195) vs []) Fs → SFun (model prog w) (Base mg mb K) 6 103 (fun vs => call (.ref 223) vs) Fd →
    BodyS (model prog w) (Base mg mb K) 20 400 (scopeOf (stN 19)) nmTable (bodyOf (stN 19)) f} :=
  ⟨_, fun prog w mg mb K G C hp hs hd Sp Ss Sd A κ L a q cd hB rm =>
    S_cons (S_AssignComp [] [nm "place"] rm.hh (Src_range (nb hB G.range rfl rfl) (S_args_cons S_int S_args_nil)) (fun κ' C' le => tc 0 (envD_e0 rfl) rfl rfl rfl) (fun κ' C' le => S_tests_nil)
      (fun κ' C' le => S_CallU RF.inv (hB.le le) (ngc (hB.le le) (envD_e0 rfl) G.pretty rfl rfl) hp (S_args_cons (S_BinOp S_int (lc 0 (envD_e0 rfl) rfl rfl rfl) O_pow) S_args_nil) Sp (rm.le (by decide) (by decide)))
      (fun κ' le => so 2 rfl rfl rfl) (go_name _) (closureFor_none (by decide)) (by decide) rfl (by decide) (by decide) rfl rfl)
    (S_cons (S_Assign (S_List RF.inv S_args_nil) (so 3 rfl rfl rfl))
    (S_cons (S_For rm.hh (Src_range (nb hB G.range rfl rfl) (S_args_cons (S_CallB (nb hB G.len rfl rfl) (S_args_cons (lo 0 rfl rfl rfl) S_args_nil) (O_len RF.inv)) S_args_nil))
      (fun κ' le => ta 4 rfl rfl rfl)
      (fun κ' le =>
        S_cons (S_Assign S_int (so 5 rfl rfl rfl))
        (S_cons (S_While (S_isTrue_cmp (lo 5 rfl rfl rfl) S_int O_lt)
          (S_cons (S_Assign (S_Sub RF.inv (lo 2 rfl rfl rfl) (S_BinOp (S_BinOp (S_Sub RF.inv (lo 0 rfl rfl rfl) (lo 4 rfl rfl rfl)) (lo 5 rfl rfl rfl) O_add) S_int O_mod)) (so 6 rfl rfl rfl))
          (S_cons (S_If (S_isTrue_cmp (S_BinOp (lo 4 rfl rfl rfl) S_int O_mod) S_int O_eq) (S_one (S_Assign (S_Meth0 (gets_str PySem.F.slot_str_lower PySem.F.type_str_lower) (lo 6 rfl rfl rfl) O_lower) (so 6 rfl rfl rfl))) S_nil)
          (S_cons (S_If (S_isTrue_cmp
              (S_MethF RF.inv (hB.le le) (gets_meth RF.inv (hB.le le) C C.setd (by decide)) hs (lo 1 rfl rfl rfl) (S_args_cons (lo 6 rfl rfl rfl) (S_args_cons (S_CallT (nb (hB.le le) G.str rfl rfl) (S_args_cons (lo 4 rfl rfl rfl) S_args_nil) O_str) S_args_nil)) Ss (rm.le (by decide) (by decide)) (kw_none rfl))
              (S_CallT (nb (hB.le le) G.str rfl rfl) (S_args_cons (lo 4 rfl rfl rfl) S_args_nil) O_str) O_eq) (S_one S_Break) S_nil)
          (S_one (S_AugName (ld 5 rfl rfl rfl) S_int O_iadd (so 5 rfl rfl rfl)))))))
        (S_one (S_Expr (S_Meth1 (gets_list RF.inv PySem.F.slot_list_append PySem.F.type_list_append) (lo 3 rfl rfl rfl) (S_args_cons (lo 5 rfl rfl rfl) S_args_nil) (O_append RF.inv))))))
      S_nil (go_name _))
    (S_one (S_Return (S_CallU RF.inv hB (ng hB G.driven rfl rfl) hd (S_args_cons (lo 0 rfl rfl rfl) (S_args_cons (lo 3 rfl rfl rfl) S_args_nil)) Sd (rm.le (by decide) (by decide)))))))⟩
end Mine
end
section
open PySem PySem.W PyProof.Rows PySem.Calls PySem.Spec
set_option maxRecDepth 100000
namespace Mine
noncomputable def ltR (x : List Nat) : List Nat → Bool := @List.rec Nat (fun _ => List Nat → Bool) (fun y => @List.rec Nat (fun _ => Bool) false (fun _ _ _ => true) y)
  (fun a _ ih y => @List.rec Nat (fun _ => Bool) false (fun b r _ => @Bool.rec (fun _ => Bool) (@Bool.rec (fun _ => Bool) false (ih r) (Nat.beq a b)) true (Nat.ble (Nat.add a 1) b)) y) x
theorem ltR_iff (x : List Nat) : ∀ y, ltR x y = true ↔ x < y := by
  induction x with
  | nil => intro y; cases y with
    | nil => constructor <;> intro h <;> first | cases h | exact absurd h (List.lt_irrefl _)
    | cons b y => exact ⟨fun _ => List.nil_lt_cons .., fun _ => rfl⟩
  | cons a x ih =>
    intro y
    cases y with
    | nil => exact ⟨fun h => (by cases h), fun h => absurd h (List.not_lt_nil _)⟩
    | cons b y =>
      rw [List.cons_lt_cons_iff]
      show @Bool.rec (fun _ => Bool) (@Bool.rec (fun _ => Bool) false (ltR x y) (Nat.beq a b)) true (Nat.ble (Nat.add a 1) b) = true ↔ _
      cases h1 : Nat.ble (Nat.add a 1) b with
      | true =>
        rw [Nat.ble_eq] at h1
        exact ⟨fun _ => .inl h1, fun _ => rfl⟩
      | false =>
        have h1' : ¬ a < b := fun q => by
          have : Nat.ble (Nat.add a 1) b = true := Nat.ble_eq.mpr q
          rw [h1] at this; cases this
        cases h2 : Nat.beq a b with
        | true =>
          rw [Nat.beq_eq] at h2
          show ltR x y = true ↔ _
          rw [ih y]
          exact ⟨fun h => .inr ⟨h2, h⟩, fun h => h.elim (fun q => absurd q h1') (·.2)⟩
        | false =>
          have h2' := Nat.ne_of_beq_eq_false h2
          exact ⟨fun h => (by cases h), fun h => h.elim (fun q => absurd q h1') (fun q => absurd q.1 h2')⟩
noncomputable def insR (x : List Nat) (l : List (List Nat)) : List (List Nat) := @List.rec (List Nat) (fun _ => List (List Nat)) [x] (fun b r ih => @Bool.rec (fun _ => List (List Nat)) (x :: b :: r) (b :: ih) (ltR b x)) l
noncomputable def srtR (l : List (List Nat)) : List (List Nat) := @List.rec (List Nat) (fun _ => List (List Nat)) [] (fun a _ ih => insR a ih) l
theorem insR_perm (x : List Nat) (l : List (List Nat)) : (insR x l).Perm (x :: l) := by
  induction l with
  | nil => exact .refl _
  | cons b r ih =>
    show (@Bool.rec (fun _ => List (List Nat)) (x :: b :: r) (b :: insR x r) (ltR b x)).Perm _
    cases ltR b x with
    | false => exact .refl _
    | true => exact (List.Perm.cons b ih).trans (List.Perm.swap ..)
theorem srtR_perm (l : List (List Nat)) : (srtR l).Perm l := by
  induction l with
  | nil => exact .refl _
  | cons a r ih => exact (insR_perm a (srtR r)).trans (List.Perm.cons a ih)
theorem insR_sorted {x : List Nat} {l : List (List Nat)} (h : l.Pairwise (· ≤ ·)) : (insR x l).Pairwise (· ≤ ·) := by
  induction l with
  | nil => exact List.pairwise_singleton ..
  | cons b r ih =>
    rw [List.pairwise_cons] at h
    show (@Bool.rec (fun _ => List (List Nat)) (x :: b :: r) (b :: insR x r) (ltR b x)).Pairwise _
    cases e : ltR b x with
    | false =>
      have hxb : x ≤ b := fun q => by rw [(ltR_iff b x).mpr q] at e; cases e
      refine List.pairwise_cons.mpr ⟨fun y hy => ?_, List.pairwise_cons.mpr h⟩
      rcases List.mem_cons.mp hy with rfl | hy
      · exact hxb
      · exact List.le_trans hxb (h.1 y hy)
    | true =>
      have hbx : b < x := (ltR_iff b x).mp e
      refine List.pairwise_cons.mpr ⟨fun y hy => ?_, ih h.2⟩
      rcases List.mem_cons.mp ((insR_perm x r).mem_iff.mp hy) with rfl | hy
      · exact List.le_of_lt hbx
      · exact h.1 y hy
theorem srtR_sorted (l : List (List Nat)) : (srtR l).Pairwise (· ≤ ·) := by
  induction l with
  | nil => exact .nil
  | cons a r ih => exact insR_sorted ih
theorem rising_pw : ∀ (p : Str) (l : List Str), risingS p l = true → (p :: l).Pairwise (fun a b => a.cps.toList ≤ b.cps.toList)
  | p, [], _ => List.pairwise_singleton ..
  | p, x :: r, h => by
    have h' : (!ltCps x.cps.toList p.cps.toList && risingS x r) = true := h
    simp only [Bool.and_eq_true, Bool.not_eq_true'] at h'
    have hpx : p.cps.toList ≤ x.cps.toList := fun q => by
      have := h'.1
      rw [ltCps_eq] at this
      simp [q] at this
    have ih := rising_pw x r h'.2
    refine List.pairwise_cons.mpr ⟨fun y hy => ?_, ih⟩
    rcases List.mem_cons.mp hy with rfl | hy
    · exact hpx
    · exact List.le_trans hpx ((List.pairwise_cons.mp ih).1 y hy)
theorem sorted_is {ss' : List Str} {ys : List (List Nat)} (hp : ss'.Perm (ys.map sOf)) (hs : sortedS ss' = true) : ss' = (srtR ys).map sOf := by
  have h1 : (ss'.map fun z => z.cps.toList).Pairwise (· ≤ ·) := by
    rw [List.pairwise_map]
    cases ss' with
    | nil => exact .nil
    | cons p l => exact rising_pw p l hs
  have h2 : (ss'.map fun z => z.cps.toList).Perm ys := by
    have := hp.map (fun z : Str => z.cps.toList)
    rw [List.map_map] at this
    have e : ys.map ((fun z : Str => z.cps.toList) ∘ sOf) = ys := by
      have : ((fun z : Str => z.cps.toList) ∘ sOf) = id := by funext z; simp
      rw [this, List.map_id]
    rwa [e] at this
  have h3 := List.Perm.eq_of_pairwise (le := (· ≤ ·)) (fun a b _ _ x y => List.le_antisymm x y) h1 (srtR_sorted ys) (h2.trans (srtR_perm ys).symm)
  have h4 : ss' = (ss'.map fun z => z.cps.toList).map sOf := by
    rw [List.map_map]
    have : (sOf ∘ fun z : Str => z.cps.toList) = id := by funext z; apply Str.ext'; simp [sOf]
    rw [this, List.map_id]
  rw [h4, h3]

noncomputable def bSorted (as : List AV) (st : AS) : Option (AV × AS) := arg1 as fun a => onRef a fun r => onList (nthR st.heap r) fun xs => onSome (strsOf xs) fun ys => onBool (Nat.ble (lenR ys) 60)
  (some (.ref (lenR st.heap), ⟨st.loc, st.cmp, appR st.heap [.list (mapStr (srtR ys))]⟩))
theorem RH.add {κ : Kp} {σ : List Addr} {H : List AO} {h h' : Heap} (R : RH κ σ H h) {a : Addr} {ao : AO} {o : Obj} (g : ∀ b o, h.get? b = some o → h'.get? b = some o) (hn : h.get? a = none) (e : h'.get? a = some o) (ho : OR (σ ++ [a]) ao o) : RH κ (σ ++ [a]) (H ++ [ao]) h' where
  keep := fun b o' e => g _ _ (R.keep b o' e)
  off := fun b hb => by
    rcases List.mem_append.mp hb with hb | hb
    · exact R.off b hb
    · rw [List.mem_singleton.mp hb]
      cases q : κ a with
      | none => rfl
      | some o' => rw [R.keep _ _ q] at hn; cases hn
  nd := List.nodup_append.mpr ⟨R.nd, by simp, fun b hb c hc e' => by
    rw [List.mem_singleton.mp hc] at e'
    obtain ⟨i, hi, q⟩ := List.mem_iff_getElem.mp hb
    obtain ⟨b', o', h1, h2, _⟩ := R.objs i (H[i]'(by rw [R.len]; exact hi)) (by simp)
    rw [List.getElem?_eq_getElem hi, q] at h1
    cases h1
    rw [e', hn] at h2; cases h2⟩
  len := by simp [R.len]
  objs := fun i ao' e' => by
    by_cases hi : i < H.length
    · rw [List.getElem?_append_left hi] at e'
      obtain ⟨b, o', h1, h2, h3⟩ := R.objs i ao' e'
      exact ⟨b, o', get_app h1 _, g _ _ h2, h3.mono _⟩
    · have hi2 : i = H.length := by
        have := (List.getElem?_eq_some_iff.mp e').1
        simp at this; omega
      subst hi2
      simp at e'
      subst e'
      refine ⟨a, o, ?_, e, ho⟩
      rw [R.len]; simp
theorem strsAre_rel {σ : List Addr} : ∀ {vs : List Value} {ys : List (List Nat)}, StrsAre vs (ys.map sOf) → VRs σ (ys.map .str) vs
  | _, [], h => by cases h; exact .nil
  | _, y :: ys, h => by cases h with | cons _ t h => exact .cons ⟨t, rfl⟩ (strsAre_rel h)
theorem strs_areS {σ : List Addr} {xs : List AV} {vs : List Value} (h : VRs σ xs vs) : ∀ {ys : List (List Nat)}, strsOf xs = some ys → StrsAre vs (ys.map sOf) := by
  induction h with
  | nil => intro ys e; cases e; exact .nil
  | @cons a v as us h1 h2 ih =>
    intro ys e
    obtain ⟨x, rfl, e⟩ := onStr_some (a := a) e
    obtain ⟨r, hr, e⟩ := onSome_some (o := strsOf as) e
    cases e
    obtain ⟨t, rfl⟩ := h1
    exact .cons _ t (ih hr)
section
variable {prog : Program} {w : World} {A : Around} {I : List Addr → AS → Heap → Prop} {env : Env} {κ : Kp}
theorem O_sorted (V : IsInv κ I) : OpN (model prog w) A I VR (fun vs => call (.builtin "sorted") vs) bSorted := by
  intro as as' σ st s b st' hI ha e Q hQ
  obtain ⟨a, rfl, e⟩ := arg1_some e
  obtain ⟨r, rfl, e⟩ := onRef_some e
  obtain ⟨xs, hx, e⟩ := onList_some e
  obtain ⟨ys, hy, e⟩ := onSome_some e
  obtain ⟨hl, e⟩ := onBool_some e
  cases e
  rw [nthR_eq] at hx
  rw [Nat.ble_eq, lenR_eq] at hl
  rw [lenR_eq, appR_eq, mapStr_eq] at hQ
  obtain ⟨a', rfl, h1⟩ := vrs1 ha
  have R := V.rh hI
  obtain ⟨l, o, rfl, hs, h4, vs, n, rfl, hvs⟩ := R.read hx h1
  have hS := strs_areS hvs hy
  have hlen : vs.length = ys.length := by
    have : ∀ {vs : List Value} {ss : List Str}, StrsAre vs ss → vs.length = ss.length := by
      intro vs ss h; induction h with
      | nil => rfl
      | cons _ _ _ ih => simp [ih]
    rw [this hS]; simp
  refine sorted_strs (l := l) ⟨_, h4, rfl, _, rfl⟩ hS (by omega) fun out ss' e1 e2 e3 => ?_
  obtain ⟨k, hk⟩ := sortedAll_at s.heap vs out
  have hss := sorted_is e2 e3
  subst hss
  have hnone : s.heap.get? (s.heap.objs.size + 1) = none := by
    cases q : s.heap.get? (s.heap.objs.size + 1) with
    | none => rfl
    | some o => exact absurd (Heap.lt_size q) (Nat.not_lt.mpr (Nat.le_succ _))
  have RR := R.add (a := s.heap.objs.size + 1) (ao := .list ((srtR ys).map .str)) (h' := sortedAll s.heap vs out) (fun b o e => sortedAll_old e) hnone hk ⟨out.toList, k, by simp [seqObj], strsAre_rel e1⟩
  have step := V.step hI (τ := [s.heap.objs.size + 1]) RR (fun b o _ e => sortedAll_old e) fun a ha => by rw [List.mem_singleton.mp ha]; exact hnone
  exact hQ [s.heap.objs.size + 1] _ s.toks _ step (vr_new R _)
end
end Mine
end
section
open PySem PySem.W PyProof.Rows PySem.Calls PySem.Spec
set_option maxRecDepth 100000
namespace Mine
/-- the frame of the law: one variable lies in a cell -/
abbrev envL (L a c : Addr) (q : Str) (cd : Value) : Env := { scope := scopeOf (stN 22), locals := L, globals := mainGlobals, cells := [(nm "wishes", c)], qual := q, func := some a, code := cd, frame := some L, builtins := builtinsNs }
theorem envL_e0 {L a c : Addr} {q : Str} {cd : Value} : E0 (envL L a c q cd) L := ⟨rfl, rfl, rfl, rfl⟩
def lawRest : List Stmt := (bodyOf (stN 22)).drop 1
abbrev nmLaw : List Str := [nm "told", nm "over", nm "table", nm "turned", nm "taken", nm "driven"]

section
variable {prog : Program} {w : World} {A : Around} {κ : Kp} {L a c : Addr} {pins : List (Nat × Addr)} {mg mb : Str → Option Value} {K : Frag} {q : Str} {cd : Value}
theorem ll (i : Nat) {x : Str} {pos : Pos} (hl : (envL L a c q cd).kindOf x = some .local) (hi : nmLaw[i]? = some x) (hd : (x == ("__debug__" : Str)) = false := by decide) : S (model prog w) A (RF κ L nmLaw pins) VR (eval (.Name x pos) (envL L a c q cd)) (aLoc i) := S_loc envL_e0 hl hi hd
theorem sl (i : Nat) {x : Str} (hl : (envL L a c q cd).kindOf x = some .local) (hi : nmLaw[i]? = some x) : Op1 (model prog w) A (RF κ L nmLaw pins) UR (storeName (envL L a c q cd) x) (aSt i) := O_store envL_e0 hl hi
theorem nbl (B : Base mg mb K κ) {x : Str} {v : Value} (hv : mg x = none ∧ mb x = some v) (hx : (envL L a c q cd).kindOf x = some .globalImplicit) (hd : (x == ("__debug__" : Str)) = false := by decide) : NameIs (model prog w) A (RF κ L nmLaw pins) (envL L a c q cd) x v := name_builtin RF.inv B hv.1 hv.2 rfl hx rfl rfl hd
theorem ngl (B : Base mg mb K κ) {x : Str} {v : Value} (hv : mg x = some v) (hx : (envL L a c q cd).kindOf x = some .globalImplicit) (hd : (x == ("__debug__" : Str)) = false := by decide) : NameIs (model prog w) A (RF κ L nmLaw pins) (envL L a c q cd) x v := name_global RF.inv B hv rfl hx rfl hd
theorem cel {aw : Addr} {o : Obj} {x : Str} {pos : Pos} (ho : κ c = some o) (hd : o.data = .cell (some (.ref aw))) (hx : (envL L a c q cd).kindOf x = some .cell) (hc : (envL L a c q cd).cells.lookup x = some c) (hb : (x == ("__debug__" : Str)) = false := by decide) : S (model prog w) A (RF κ L nmLaw [(0, aw)]) VR (eval (.Name x pos) (envL L a c q cd)) (okA (.ref 0)) :=
  S_cell rfl hx hc ho hd (List.mem_cons_self ..) hb
end

structure Funs (prog : Program) (w : World) (mg mb : Str → Option Value) (K : Frag) (Ft Fi Fb Fk Fh Fo Fp : List AV → List AO → Option (AV × List AO)) : Prop where
  told : FnAt K 216 ∧ SFun (model prog w) (Base mg mb K) 6 103 (fun vs => call (.ref 216) vs) Ft
  init : SFunC (model prog w) (Base mg mb K) 6 103 97 [] Fi
  table : FnAt K 228 ∧ SFun (model prog w) (Base mg mb K) 21 403 (fun vs => call (.ref 228) vs) Fb
  keys : FnAt K 157 ∧ SFun (model prog w) (Base mg mb K) 6 103 (fun vs => call (.ref 157) vs) Fk
  halves : FnAt K 235 ∧ SFun (model prog w) (Base mg mb K) 11 203 (fun vs => call (.ref 235) vs) Fh
  once : FnAt K 240 ∧ SFun (model prog w) (Base mg mb K) 11 203 (fun vs => call (.ref 240) vs) Fo
  pretty : FnAt K 72 ∧ SFun (model prog w) (Base mg mb K) 6 103 (fun vs => call (.ref 72) vs) Fp

theorem Rm.cl {A : Around} {d u : Nat} (r : Rm A d u) : A.units < cLine := Nat.lt_of_le_of_lt (Nat.le_add_right _ _) r.un

noncomputable def law_d (Ft Fi Fb Fk Fh Fo Fp : List AV → List AO → Option (AV × List AO)) : {f : AS → Option (AF × AS) // ∀ (prog : Program) (w : World) (mg mb : Str → Option Value) (K : Frag), Glo mg mb → Cls K → keepIn K (.ref 205) = true → Funs prog w mg mb K Ft Fi Fb Fk Fh Fo Fp →
    ∀ (A : Around) (κ : Kp) (L a c aw : Addr) (q : Str) (cd : Value) (o : Obj), Base mg mb K κ → Rm A 30 600 → κ c = some o → o.data = .cell (some (.ref aw)) → S (model prog w) A (RF κ L nmLaw [(0, aw)]) FR (execs lawRest (envL L a c q cd)) f} :=
  ⟨_, fun prog w mg mb K G C hk U A κ L a c aw q cd o hB rm ho hd =>
    S_cons (S_AssignTup (S_CallU RF.inv hB (ngl hB G.told rfl) U.told.1 (S_args_cons (cel ho hd rfl rfl) S_args_nil) U.told.2 (rm.le (by decide) (by decide))) (O_tup2 rm.hh (i := 0) (j := 1) envL_e0 rfl rfl rfl rfl))
    (S_cons (S_Assign (S_New RF.inv hB C (ngl hB G.headers rfl) hk U.init (rm.le (by decide) (by decide))) (sl 2 rfl rfl))
    (S_cons (S_If (S_isTrue_cmp (S_CallU RF.inv hB (ngl hB G.table rfl) U.table.1 (S_args_cons (cel ho hd rfl rfl) (S_args_cons (ll 2 rfl rfl) S_args_nil)) U.table.2 (rm.le (by decide) (by decide))) (ll 1 rfl rfl) (O_lne RF.inv rm.cl)) (S_one (S_Return S_bool)) S_nil)
    (S_cons (S_If (S_isTrue_cmp
        (S_CallB (nbl hB G.sorted rfl) (S_args_cons (S_ListComp [] [nm "word"] rm.hh (Src_list (S_MethF0 RF.inv hB (gets_meth RF.inv hB C C.keys (by decide)) U.keys.1 (ll 2 rfl rfl) U.keys.2 (rm.le (by decide) (by decide)))) (fun κ' C' le => tc 0 envL_e0 rfl rfl rfl) (fun κ' C' le => S_tests_nil)
          (fun κ' C' le => S_Meth0 (gets_str PySem.F.slot_str_upper PySem.F.type_str_upper) (lc 0 envL_e0 rfl rfl rfl) O_upper) (go_name _) (closureFor_none (by decide)) (by decide) rfl (by decide) (by decide) rfl) S_args_nil) (O_sorted RF.inv))
        (S_CallB (nbl hB G.sorted rfl) (S_args_cons (ll 0 rfl rfl) S_args_nil) (O_sorted RF.inv)) (O_lne RF.inv rm.cl)) (S_one (S_Return S_bool)) S_nil)
    (S_cons (S_AssignComp [(nm "wishes", c)] [nm "k"] rm.hh (Src_range (nbl hB G.range rfl) (S_args_cons (S_CallB (nbl hB G.len rfl) (S_args_cons (cel ho hd rfl rfl) S_args_nil) (O_len RF.inv)) S_args_nil)) (fun κ' C' le => tc 0 envL_e0 rfl rfl rfl) (fun κ' C' le => S_tests_nil)
      (fun κ' C' le => S_Sub RF.inv (S_cell rfl rfl rfl (le _ _ ho) hd (List.mem_cons_self ..)) (S_BinOp (S_BinOp (S_CallB (nbc (hB.le le) envL_e0 G.len rfl rfl) (S_args_cons (S_cell rfl rfl rfl (le _ _ ho) hd (List.mem_cons_self ..)) S_args_nil) (O_len RF.inv)) S_int O_sub) (lc 0 envL_e0 rfl rfl rfl) O_sub))
      (fun κ' le => sl 3 rfl rfl) (go_name _) rfl (by decide) rfl (by decide) (by decide) rfl rfl)
    (S_cons (S_For rm.hh (Src_list (S_List RF.inv (S_args_cons (S_CallU RF.inv hB (ngl hB G.halves rfl) U.halves.1 (S_args_cons (ll 3 rfl rfl) S_args_nil) U.halves.2 (rm.le (by decide) (by decide)))
        (S_args_cons (S_CallU RF.inv hB (ngl hB G.once rfl) U.once.1 (S_args_cons (cel ho hd rfl rfl) S_args_nil) U.once.2 (rm.le (by decide) (by decide))) S_args_nil))))
      (fun κ' le => O_tup2 rm.hh (i := 4) (j := 5) envL_e0 rfl rfl rfl rfl)
      (fun κ' le => S_one (S_If (S_isTrue_or (S_isTrue_cmp (ll 5 rfl rfl) (ll 1 rfl rfl) (O_lne RF.inv rm.cl))
          (S_isTrue_cmp (S_CallU RF.inv (hB.le le) (ngl (hB.le le) G.pretty rfl) U.pretty.1 (S_args_cons (ll 4 rfl rfl) S_args_nil) U.pretty.2 (rm.le (by decide) (by decide)))
            (S_Meth1 (gets_str PySem.F.slot_str_join PySem.F.type_str_join) (S_str (l := [44, 32]) rfl) (S_args_cons (ll 0 rfl rfl) S_args_nil) (O_join RF.inv)) O_sne)) (S_one (S_Return S_bool)) S_nil))
      S_nil go_tup)
    (S_one (S_Return S_bool)))))))⟩
end Mine
end
section
open PySem PySem.W PyProof.Rows PySem.Calls PySem.Spec
set_option maxRecDepth 100000
set_option maxHeartbeats 8000000
namespace Mine
/- the plain functions fused: the same answers in fewer steps of the kernel -/
section
variable {α β γ δ : Type}
noncomputable def bindP (o : Option (β × AS)) (k : β → AS → Option γ) : Option γ := @Option.rec (β × AS) (fun _ => Option γ) none (fun p => @Prod.rec β AS (fun _ => Option γ) (fun b st' => k b st') p) o
theorem seqA_b (f : AS → Option (β × AS)) (g : β → AS → Option (γ × AS)) : seqA f g = fun st => bindP (f st) g := rfl
theorem bindP_some (b : β) (st : AS) (k : β → AS → Option γ) : bindP (some (b, st)) k = k b st := rfl
theorem bindP_none (k : β → AS → Option γ) : bindP none k = none := rfl
theorem bindP_bindP (o : Option (β × AS)) (k : β → AS → Option (γ × AS)) (k' : γ → AS → Option δ) : bindP (bindP o k) k' = bindP o fun b st => bindP (k b st) k' := by cases o <;> rfl
theorem bindP_onSome (o : Option α) (k : α → Option (γ × AS)) (k' : γ → AS → Option δ) : bindP (onSome o k) k' = onSome o fun a => bindP (k a) k' := by cases o <;> rfl
theorem onSome_bindP (o : Option (β × AS)) (k : β → AS → Option γ) (k' : γ → Option δ) : onSome (bindP o k) k' = bindP o fun a st => onSome (k a st) k' := by cases o <;> rfl
theorem onSome_onSome (o : Option α) (k : α → Option β) (k' : β → Option δ) : onSome (onSome o k) k' = onSome o fun a => onSome (k a) k' := by cases o <;> rfl
theorem onSome_some' (a : α) (k : α → Option β) : onSome (some a) k = k a := rfl
theorem onSome_none (k : α → Option β) : onSome none k = none := rfl
theorem bindP_onBool (b : Bool) (x : Option (γ × AS)) (k' : γ → AS → Option δ) : bindP (onBool b x) k' = onBool b (bindP x k') := by cases b <;> rfl
theorem onSome_onBool (b : Bool) (x : Option β) (k' : β → Option δ) : onSome (onBool b x) k' = onBool b (onSome x k') := by cases b <;> rfl
theorem onBool_true (x : Option β) : onBool true x = x := rfl
theorem bindP_onInt (a : AV) (k : Int → Option (γ × AS)) (k' : γ → AS → Option δ) : bindP (onInt a k) k' = onInt a fun i => bindP (k i) k' := by cases a <;> rfl
theorem onSome_onInt (a : AV) (k : Int → Option β) (k' : β → Option δ) : onSome (onInt a k) k' = onInt a fun i => onSome (k i) k' := by cases a <;> rfl
theorem onInt_con (i : Int) (k : Int → Option β) : onInt (.int i) k = k i := rfl
theorem bindP_onRef (a : AV) (k : Nat → Option (γ × AS)) (k' : γ → AS → Option δ) : bindP (onRef a k) k' = onRef a fun i => bindP (k i) k' := by cases a <;> rfl
theorem onSome_onRef (a : AV) (k : Nat → Option β) (k' : β → Option δ) : onSome (onRef a k) k' = onRef a fun i => onSome (k i) k' := by cases a <;> rfl
theorem onRef_con (i : Nat) (k : Nat → Option β) : onRef (.ref i) k = k i := rfl
theorem bindP_onStr (a : AV) (k : List Nat → Option (γ × AS)) (k' : γ → AS → Option δ) : bindP (onStr a k) k' = onStr a fun i => bindP (k i) k' := by cases a <;> rfl
theorem onSome_onStr (a : AV) (k : List Nat → Option β) (k' : β → Option δ) : onSome (onStr a k) k' = onStr a fun i => onSome (k i) k' := by cases a <;> rfl
theorem onStr_con (i : List Nat) (k : List Nat → Option β) : onStr (.str i) k = k i := rfl
theorem bindP_onNat (a : Int) (k : Nat → Option (γ × AS)) (k' : γ → AS → Option δ) : bindP (onNat a k) k' = onNat a fun i => bindP (k i) k' := by cases a <;> rfl
theorem onSome_onNat (a : Int) (k : Nat → Option β) (k' : β → Option δ) : onSome (onNat a k) k' = onNat a fun i => onSome (k i) k' := by cases a <;> rfl
theorem onNat_con (i : Nat) (k : Nat → Option β) : onNat (.ofNat i) k = k i := rfl
theorem bindP_onList (a : Option AO) (k : List AV → Option (γ × AS)) (k' : γ → AS → Option δ) : bindP (onList a k) k' = onList a fun i => bindP (k i) k' := by
  cases a with
  | none => rfl
  | some a => cases a <;> rfl
theorem onSome_onList (a : Option AO) (k : List AV → Option β) (k' : β → Option δ) : onSome (onList a k) k' = onList a fun i => onSome (k i) k' := by
  cases a with
  | none => rfl
  | some a => cases a <;> rfl
theorem nthR_setR_ne {l : List α} {v : α} {i j : Nat} (h : (i == j) = false) : nthR (setR l v j) i = nthR l i := by
  rw [nthR_eq, nthR_eq, setR_eq, List.getElem?_set_ne (by rintro rfl; simp at h)]
noncomputable def loopL (i : Nat) (body : AS → Option (AF × AS)) (n : Nat) : Src → AS → Option (AF × AS) :=
  @Nat.rec (fun _ => Src → AS → Option (AF × AS)) (fun _ _ => none)
    (fun _ ih src st => onSome (nextS src st.heap) fun r => @Option.rec (AV × Src) (fun _ => Option (AF × AS)) (some (.next, st))
      (fun p => bindP (body ⟨setR st.loc (some p.1) i, st.cmp, st.heap⟩) fun fl st => @AF.rec (fun _ => Option (AF × AS)) (ih p.2 st) (some (.brk, st)) (ih p.2 st) (fun v => some (.ret v, st)) fl) r) n
theorem loopF_L (i : Nat) (body : AS → Option (AF × AS)) (n : Nat) : loopF (aSt i) body n = loopL i body n := rfl
noncomputable def g0 (k : AV → Option β) (l : List (Option AV)) : Option β := @List.rec (Option AV) (fun _ => Option β) none (fun a _ _ => @Option.rec AV (fun _ => Option β) none k a) l
theorem g0_eq (l : List (Option AV)) (k : AV → Option β) : (onSome (nthR l 0) fun a => onSome a k) = g0 k l := by cases l <;> rfl
noncomputable def s0 (l : List α) (v : α) : List α := @List.rec α (fun _ => List α) [] (fun _ t _ => v :: t) l
theorem s0_eq (l : List α) (v : α) : setR l v 0 = s0 l v := by cases l <;> rfl
noncomputable def g1 (k : AV → Option β) (l : List (Option AV)) : Option β := @List.rec (Option AV) (fun _ => Option β) none (fun _ t _ => g0 k t) l
theorem g1_eq (l : List (Option AV)) (k : AV → Option β) : (onSome (nthR l 1) fun a => onSome a k) = g1 k l := by
  cases l with
  | nil => rfl
  | cons a l => exact g0_eq l k
noncomputable def s1 (l : List α) (v : α) : List α := @List.rec α (fun _ => List α) [] (fun a t _ => a :: s0 t v) l
theorem s1_eq (l : List α) (v : α) : setR l v 1 = s1 l v := by
  cases l with
  | nil => rfl
  | cons a l => exact congrArg (a :: ·) (s0_eq l v)
noncomputable def g2 (k : AV → Option β) (l : List (Option AV)) : Option β := @List.rec (Option AV) (fun _ => Option β) none (fun _ t _ => g1 k t) l
theorem g2_eq (l : List (Option AV)) (k : AV → Option β) : (onSome (nthR l 2) fun a => onSome a k) = g2 k l := by
  cases l with
  | nil => rfl
  | cons a l => exact g1_eq l k
noncomputable def s2 (l : List α) (v : α) : List α := @List.rec α (fun _ => List α) [] (fun a t _ => a :: s1 t v) l
theorem s2_eq (l : List α) (v : α) : setR l v 2 = s2 l v := by
  cases l with
  | nil => rfl
  | cons a l => exact congrArg (a :: ·) (s1_eq l v)
noncomputable def g3 (k : AV → Option β) (l : List (Option AV)) : Option β := @List.rec (Option AV) (fun _ => Option β) none (fun _ t _ => g2 k t) l
theorem g3_eq (l : List (Option AV)) (k : AV → Option β) : (onSome (nthR l 3) fun a => onSome a k) = g3 k l := by
  cases l with
  | nil => rfl
  | cons a l => exact g2_eq l k
noncomputable def s3 (l : List α) (v : α) : List α := @List.rec α (fun _ => List α) [] (fun a t _ => a :: s2 t v) l
theorem s3_eq (l : List α) (v : α) : setR l v 3 = s3 l v := by
  cases l with
  | nil => rfl
  | cons a l => exact congrArg (a :: ·) (s2_eq l v)
noncomputable def g4 (k : AV → Option β) (l : List (Option AV)) : Option β := @List.rec (Option AV) (fun _ => Option β) none (fun _ t _ => g3 k t) l
theorem g4_eq (l : List (Option AV)) (k : AV → Option β) : (onSome (nthR l 4) fun a => onSome a k) = g4 k l := by
  cases l with
  | nil => rfl
  | cons a l => exact g3_eq l k
noncomputable def s4 (l : List α) (v : α) : List α := @List.rec α (fun _ => List α) [] (fun a t _ => a :: s3 t v) l
theorem s4_eq (l : List α) (v : α) : setR l v 4 = s4 l v := by
  cases l with
  | nil => rfl
  | cons a l => exact congrArg (a :: ·) (s3_eq l v)
noncomputable def g5 (k : AV → Option β) (l : List (Option AV)) : Option β := @List.rec (Option AV) (fun _ => Option β) none (fun _ t _ => g4 k t) l
theorem g5_eq (l : List (Option AV)) (k : AV → Option β) : (onSome (nthR l 5) fun a => onSome a k) = g5 k l := by
  cases l with
  | nil => rfl
  | cons a l => exact g4_eq l k
noncomputable def s5 (l : List α) (v : α) : List α := @List.rec α (fun _ => List α) [] (fun a t _ => a :: s4 t v) l
theorem s5_eq (l : List α) (v : α) : setR l v 5 = s5 l v := by
  cases l with
  | nil => rfl
  | cons a l => exact congrArg (a :: ·) (s4_eq l v)
noncomputable def g6 (k : AV → Option β) (l : List (Option AV)) : Option β := @List.rec (Option AV) (fun _ => Option β) none (fun _ t _ => g5 k t) l
theorem g6_eq (l : List (Option AV)) (k : AV → Option β) : (onSome (nthR l 6) fun a => onSome a k) = g6 k l := by
  cases l with
  | nil => rfl
  | cons a l => exact g5_eq l k
noncomputable def s6 (l : List α) (v : α) : List α := @List.rec α (fun _ => List α) [] (fun a t _ => a :: s5 t v) l
theorem s6_eq (l : List α) (v : α) : setR l v 6 = s6 l v := by
  cases l with
  | nil => rfl
  | cons a l => exact congrArg (a :: ·) (s5_eq l v)
noncomputable def g7 (k : AV → Option β) (l : List (Option AV)) : Option β := @List.rec (Option AV) (fun _ => Option β) none (fun _ t _ => g6 k t) l
theorem g7_eq (l : List (Option AV)) (k : AV → Option β) : (onSome (nthR l 7) fun a => onSome a k) = g7 k l := by
  cases l with
  | nil => rfl
  | cons a l => exact g6_eq l k
noncomputable def s7 (l : List α) (v : α) : List α := @List.rec α (fun _ => List α) [] (fun a t _ => a :: s6 t v) l
theorem s7_eq (l : List α) (v : α) : setR l v 7 = s7 l v := by
  cases l with
  | nil => rfl
  | cons a l => exact congrArg (a :: ·) (s6_eq l v)
noncomputable def g8 (k : AV → Option β) (l : List (Option AV)) : Option β := @List.rec (Option AV) (fun _ => Option β) none (fun _ t _ => g7 k t) l
theorem g8_eq (l : List (Option AV)) (k : AV → Option β) : (onSome (nthR l 8) fun a => onSome a k) = g8 k l := by
  cases l with
  | nil => rfl
  | cons a l => exact g7_eq l k
noncomputable def s8 (l : List α) (v : α) : List α := @List.rec α (fun _ => List α) [] (fun a t _ => a :: s7 t v) l
theorem s8_eq (l : List α) (v : α) : setR l v 8 = s8 l v := by
  cases l with
  | nil => rfl
  | cons a l => exact congrArg (a :: ·) (s7_eq l v)
noncomputable def g9 (k : AV → Option β) (l : List (Option AV)) : Option β := @List.rec (Option AV) (fun _ => Option β) none (fun _ t _ => g8 k t) l
theorem g9_eq (l : List (Option AV)) (k : AV → Option β) : (onSome (nthR l 9) fun a => onSome a k) = g9 k l := by
  cases l with
  | nil => rfl
  | cons a l => exact g8_eq l k
noncomputable def s9 (l : List α) (v : α) : List α := @List.rec α (fun _ => List α) [] (fun a t _ => a :: s8 t v) l
theorem s9_eq (l : List α) (v : α) : setR l v 9 = s9 l v := by
  cases l with
  | nil => rfl
  | cons a l => exact congrArg (a :: ·) (s8_eq l v)
end
noncomputable def driven_x : {f : AS → Option (AF × AS) // driven_d.1 = f} := by
  refine' ⟨_, _⟩
  rotate_left
  · conv =>
      lhs
      simp only [driven_d, aFor, aSeq, aAssign, aAssignT, aAug, bBin, aCmp, aIf, aAnd, aOr, aMeth, aMethF, aCons, aNil, aList, aTuple, aNew, aLoc, aSt, aRng, aLst, rngA, rngK, okA, o1, o2, iAdd, iSub, iMod, iDiv, iPow, iShl, iAnd, iXor, iLt, iGe, isN, isNN, aTruth, aSub, aItem, aPut, aSetSub, aAugSub, aCall, bMax, bCount, bAppend, bLen, bPop, arg1, arg2, arg3, aExpr, isLst, isTxt, endLoop, bStr, bJoin, bTab, bHex, bFlag, bSplit, bSub1, bSub2, aComp, aTup2, sAdd, sNe, lCmp, aAttr, isIns, aSetA, aNewI, onTf, aConv, bSorted, loopF_L, seqA_b, bindP_some, bindP_none, bindP_bindP, bindP_onSome, onSome_bindP, onSome_onSome, onSome_some', onSome_none, bindP_onBool, onSome_onBool, onBool_true, bindP_onInt, onSome_onInt, onInt_con, bindP_onRef, onSome_onRef, onRef_con, bindP_onStr, onSome_onStr, onStr_con, bindP_onNat, onSome_onNat, onNat_con, bindP_onList, onSome_onList, nthR_setR_ne, Nat.reduceBEq]
      try simp only [g0_eq, g1_eq, g2_eq, g3_eq, g4_eq, g5_eq, g6_eq, g7_eq, g8_eq, g9_eq, s0_eq, s1_eq, s2_eq, s3_eq, s4_eq, s5_eq, s6_eq, s7_eq, s8_eq, s9_eq]
noncomputable def told_x : {f : AS → Option (AF × AS) // told_d.1 = f} := by
  refine' ⟨_, _⟩
  rotate_left
  · conv =>
      lhs
      simp only [told_d, aFor, aSeq, aAssign, aAssignT, aAug, bBin, aCmp, aIf, aAnd, aOr, aMeth, aMethF, aCons, aNil, aList, aTuple, aNew, aLoc, aSt, aRng, aLst, rngA, rngK, okA, o1, o2, iAdd, iSub, iMod, iDiv, iPow, iShl, iAnd, iXor, iLt, iGe, isN, isNN, aTruth, aSub, aItem, aPut, aSetSub, aAugSub, aCall, bMax, bCount, bAppend, bLen, bPop, arg1, arg2, arg3, aExpr, isLst, isTxt, endLoop, bStr, bJoin, bTab, bHex, bFlag, bSplit, bSub1, bSub2, aComp, aTup2, sAdd, sNe, lCmp, aAttr, isIns, aSetA, aNewI, onTf, aConv, bSorted, loopF_L, seqA_b, bindP_some, bindP_none, bindP_bindP, bindP_onSome, onSome_bindP, onSome_onSome, onSome_some', onSome_none, bindP_onBool, onSome_onBool, onBool_true, bindP_onInt, onSome_onInt, onInt_con, bindP_onRef, onSome_onRef, onRef_con, bindP_onStr, onSome_onStr, onStr_con, bindP_onNat, onSome_onNat, onNat_con, bindP_onList, onSome_onList, nthR_setR_ne, Nat.reduceBEq]
      try simp only [g0_eq, g1_eq, g2_eq, g3_eq, g4_eq, g5_eq, g6_eq, g7_eq, g8_eq, g9_eq, s0_eq, s1_eq, s2_eq, s3_eq, s4_eq, s5_eq, s6_eq, s7_eq, s8_eq, s9_eq]
noncomputable def bis_x : {f : AS → Option (AF × AS) // bis_d.1 = f} := by
  refine' ⟨_, _⟩
  rotate_left
  · conv =>
      lhs
      simp only [bis_d, aFor, aSeq, aAssign, aAssignT, aAug, bBin, aCmp, aIf, aAnd, aOr, aMeth, aMethF, aCons, aNil, aList, aTuple, aNew, aLoc, aSt, aRng, aLst, rngA, rngK, okA, o1, o2, iAdd, iSub, iMod, iDiv, iPow, iShl, iAnd, iXor, iLt, iGe, isN, isNN, aTruth, aSub, aItem, aPut, aSetSub, aAugSub, aCall, bMax, bCount, bAppend, bLen, bPop, arg1, arg2, arg3, aExpr, isLst, isTxt, endLoop, bStr, bJoin, bTab, bHex, bFlag, bSplit, bSub1, bSub2, aComp, aTup2, sAdd, sNe, lCmp, aAttr, isIns, aSetA, aNewI, onTf, aConv, bSorted, loopF_L, seqA_b, bindP_some, bindP_none, bindP_bindP, bindP_onSome, onSome_bindP, onSome_onSome, onSome_some', onSome_none, bindP_onBool, onSome_onBool, onBool_true, bindP_onInt, onSome_onInt, onInt_con, bindP_onRef, onSome_onRef, onRef_con, bindP_onStr, onSome_onStr, onStr_con, bindP_onNat, onSome_onNat, onNat_con, bindP_onList, onSome_onList, nthR_setR_ne, Nat.reduceBEq]
      try simp only [g0_eq, g1_eq, g2_eq, g3_eq, g4_eq, g5_eq, g6_eq, g7_eq, g8_eq, g9_eq, s0_eq, s1_eq, s2_eq, s3_eq, s4_eq, s5_eq, s6_eq, s7_eq, s8_eq, s9_eq]
noncomputable def pretty_x : {f : AS → Option (AF × AS) // pretty_d.1 = f} := by
  refine' ⟨_, _⟩
  rotate_left
  · conv =>
      lhs
      simp only [pretty_d, aFor, aSeq, aAssign, aAssignT, aAug, bBin, aCmp, aIf, aAnd, aOr, aMeth, aMethF, aCons, aNil, aList, aTuple, aNew, aLoc, aSt, aRng, aLst, rngA, rngK, okA, o1, o2, iAdd, iSub, iMod, iDiv, iPow, iShl, iAnd, iXor, iLt, iGe, isN, isNN, aTruth, aSub, aItem, aPut, aSetSub, aAugSub, aCall, bMax, bCount, bAppend, bLen, bPop, arg1, arg2, arg3, aExpr, isLst, isTxt, endLoop, bStr, bJoin, bTab, bHex, bFlag, bSplit, bSub1, bSub2, aComp, aTup2, sAdd, sNe, lCmp, aAttr, isIns, aSetA, aNewI, onTf, aConv, bSorted, loopF_L, seqA_b, bindP_some, bindP_none, bindP_bindP, bindP_onSome, onSome_bindP, onSome_onSome, onSome_some', onSome_none, bindP_onBool, onSome_onBool, onBool_true, bindP_onInt, onSome_onInt, onInt_con, bindP_onRef, onSome_onRef, onRef_con, bindP_onStr, onSome_onStr, onStr_con, bindP_onNat, onSome_onNat, onNat_con, bindP_onList, onSome_onList, nthR_setR_ne, Nat.reduceBEq]
      try simp only [g0_eq, g1_eq, g2_eq, g3_eq, g4_eq, g5_eq, g6_eq, g7_eq, g8_eq, g9_eq, s0_eq, s1_eq, s2_eq, s3_eq, s4_eq, s5_eq, s6_eq, s7_eq, s8_eq, s9_eq]
noncomputable def quote_x : {f : AS → Option (AF × AS) // quote_d.1 = f} := by
  refine' ⟨_, _⟩
  rotate_left
  · conv =>
      lhs
      simp only [quote_d, aFor, aSeq, aAssign, aAssignT, aAug, bBin, aCmp, aIf, aAnd, aOr, aMeth, aMethF, aCons, aNil, aList, aTuple, aNew, aLoc, aSt, aRng, aLst, rngA, rngK, okA, o1, o2, iAdd, iSub, iMod, iDiv, iPow, iShl, iAnd, iXor, iLt, iGe, isN, isNN, aTruth, aSub, aItem, aPut, aSetSub, aAugSub, aCall, bMax, bCount, bAppend, bLen, bPop, arg1, arg2, arg3, aExpr, isLst, isTxt, endLoop, bStr, bJoin, bTab, bHex, bFlag, bSplit, bSub1, bSub2, aComp, aTup2, sAdd, sNe, lCmp, aAttr, isIns, aSetA, aNewI, onTf, aConv, bSorted, loopF_L, seqA_b, bindP_some, bindP_none, bindP_bindP, bindP_onSome, onSome_bindP, onSome_onSome, onSome_some', onSome_none, bindP_onBool, onSome_onBool, onBool_true, bindP_onInt, onSome_onInt, onInt_con, bindP_onRef, onSome_onRef, onRef_con, bindP_onStr, onSome_onStr, onStr_con, bindP_onNat, onSome_onNat, onNat_con, bindP_onList, onSome_onList, nthR_setR_ne, Nat.reduceBEq]
      try simp only [g0_eq, g1_eq, g2_eq, g3_eq, g4_eq, g5_eq, g6_eq, g7_eq, g8_eq, g9_eq, s0_eq, s1_eq, s2_eq, s3_eq, s4_eq, s5_eq, s6_eq, s7_eq, s8_eq, s9_eq]
noncomputable def halves_x (Fb Fd : List AV → List AO → Option (AV × List AO)) : {f : AS → Option (AF × AS) // (halves_d Fb Fd).1 = f} := by
  refine' ⟨_, _⟩
  rotate_left
  · conv =>
      lhs
      simp only [halves_d, aFor, aSeq, aAssign, aAssignT, aAug, bBin, aCmp, aIf, aAnd, aOr, aMeth, aMethF, aCons, aNil, aList, aTuple, aNew, aLoc, aSt, aRng, aLst, rngA, rngK, okA, o1, o2, iAdd, iSub, iMod, iDiv, iPow, iShl, iAnd, iXor, iLt, iGe, isN, isNN, aTruth, aSub, aItem, aPut, aSetSub, aAugSub, aCall, bMax, bCount, bAppend, bLen, bPop, arg1, arg2, arg3, aExpr, isLst, isTxt, endLoop, bStr, bJoin, bTab, bHex, bFlag, bSplit, bSub1, bSub2, aComp, aTup2, sAdd, sNe, lCmp, aAttr, isIns, aSetA, aNewI, onTf, aConv, bSorted, loopF_L, seqA_b, bindP_some, bindP_none, bindP_bindP, bindP_onSome, onSome_bindP, onSome_onSome, onSome_some', onSome_none, bindP_onBool, onSome_onBool, onBool_true, bindP_onInt, onSome_onInt, onInt_con, bindP_onRef, onSome_onRef, onRef_con, bindP_onStr, onSome_onStr, onStr_con, bindP_onNat, onSome_onNat, onNat_con, bindP_onList, onSome_onList, nthR_setR_ne, Nat.reduceBEq]
      try simp only [g0_eq, g1_eq, g2_eq, g3_eq, g4_eq, g5_eq, g6_eq, g7_eq, g8_eq, g9_eq, s0_eq, s1_eq, s2_eq, s3_eq, s4_eq, s5_eq, s6_eq, s7_eq, s8_eq, s9_eq]
noncomputable def once_x (Fq Fd : List AV → List AO → Option (AV × List AO)) : {f : AS → Option (AF × AS) // (once_d Fq Fd).1 = f} := by
  refine' ⟨_, _⟩
  rotate_left
  · conv =>
      lhs
      simp only [once_d, aFor, aSeq, aAssign, aAssignT, aAug, bBin, aCmp, aIf, aAnd, aOr, aMeth, aMethF, aCons, aNil, aList, aTuple, aNew, aLoc, aSt, aRng, aLst, rngA, rngK, okA, o1, o2, iAdd, iSub, iMod, iDiv, iPow, iShl, iAnd, iXor, iLt, iGe, isN, isNN, aTruth, aSub, aItem, aPut, aSetSub, aAugSub, aCall, bMax, bCount, bAppend, bLen, bPop, arg1, arg2, arg3, aExpr, isLst, isTxt, endLoop, bStr, bJoin, bTab, bHex, bFlag, bSplit, bSub1, bSub2, aComp, aTup2, sAdd, sNe, lCmp, aAttr, isIns, aSetA, aNewI, onTf, aConv, bSorted, loopF_L, seqA_b, bindP_some, bindP_none, bindP_bindP, bindP_onSome, onSome_bindP, onSome_onSome, onSome_some', onSome_none, bindP_onBool, onSome_onBool, onBool_true, bindP_onInt, onSome_onInt, onInt_con, bindP_onRef, onSome_onRef, onRef_con, bindP_onStr, onSome_onStr, onStr_con, bindP_onNat, onSome_onNat, onNat_con, bindP_onList, onSome_onList, nthR_setR_ne, Nat.reduceBEq]
      try simp only [g0_eq, g1_eq, g2_eq, g3_eq, g4_eq, g5_eq, g6_eq, g7_eq, g8_eq, g9_eq, s0_eq, s1_eq, s2_eq, s3_eq, s4_eq, s5_eq, s6_eq, s7_eq, s8_eq, s9_eq]
noncomputable def conv_x : {f : AS → Option (AF × AS) // conv_d.1 = f} := by
  refine' ⟨_, _⟩
  rotate_left
  · conv =>
      lhs
      simp only [conv_d, aFor, aSeq, aAssign, aAssignT, aAug, bBin, aCmp, aIf, aAnd, aOr, aMeth, aMethF, aCons, aNil, aList, aTuple, aNew, aLoc, aSt, aRng, aLst, rngA, rngK, okA, o1, o2, iAdd, iSub, iMod, iDiv, iPow, iShl, iAnd, iXor, iLt, iGe, isN, isNN, aTruth, aSub, aItem, aPut, aSetSub, aAugSub, aCall, bMax, bCount, bAppend, bLen, bPop, arg1, arg2, arg3, aExpr, isLst, isTxt, endLoop, bStr, bJoin, bTab, bHex, bFlag, bSplit, bSub1, bSub2, aComp, aTup2, sAdd, sNe, lCmp, aAttr, isIns, aSetA, aNewI, onTf, aConv, bSorted, loopF_L, seqA_b, bindP_some, bindP_none, bindP_bindP, bindP_onSome, onSome_bindP, onSome_onSome, onSome_some', onSome_none, bindP_onBool, onSome_onBool, onBool_true, bindP_onInt, onSome_onInt, onInt_con, bindP_onRef, onSome_onRef, onRef_con, bindP_onStr, onSome_onStr, onStr_con, bindP_onNat, onSome_onNat, onNat_con, bindP_onList, onSome_onList, nthR_setR_ne, Nat.reduceBEq]
      try simp only [g0_eq, g1_eq, g2_eq, g3_eq, g4_eq, g5_eq, g6_eq, g7_eq, g8_eq, g9_eq, s0_eq, s1_eq, s2_eq, s3_eq, s4_eq, s5_eq, s6_eq, s7_eq, s8_eq, s9_eq]
noncomputable def init_x : {f : AS → Option (AF × AS) // init_d.1 = f} := by
  refine' ⟨_, _⟩
  rotate_left
  · conv =>
      lhs
      simp only [init_d, aFor, aSeq, aAssign, aAssignT, aAug, bBin, aCmp, aIf, aAnd, aOr, aMeth, aMethF, aCons, aNil, aList, aTuple, aNew, aLoc, aSt, aRng, aLst, rngA, rngK, okA, o1, o2, iAdd, iSub, iMod, iDiv, iPow, iShl, iAnd, iXor, iLt, iGe, isN, isNN, aTruth, aSub, aItem, aPut, aSetSub, aAugSub, aCall, bMax, bCount, bAppend, bLen, bPop, arg1, arg2, arg3, aExpr, isLst, isTxt, endLoop, bStr, bJoin, bTab, bHex, bFlag, bSplit, bSub1, bSub2, aComp, aTup2, sAdd, sNe, lCmp, aAttr, isIns, aSetA, aNewI, onTf, aConv, bSorted, loopF_L, seqA_b, bindP_some, bindP_none, bindP_bindP, bindP_onSome, onSome_bindP, onSome_onSome, onSome_some', onSome_none, bindP_onBool, onSome_onBool, onBool_true, bindP_onInt, onSome_onInt, onInt_con, bindP_onRef, onSome_onRef, onRef_con, bindP_onStr, onSome_onStr, onStr_con, bindP_onNat, onSome_onNat, onNat_con, bindP_onList, onSome_onList, nthR_setR_ne, Nat.reduceBEq]
      try simp only [g0_eq, g1_eq, g2_eq, g3_eq, g4_eq, g5_eq, g6_eq, g7_eq, g8_eq, g9_eq, s0_eq, s1_eq, s2_eq, s3_eq, s4_eq, s5_eq, s6_eq, s7_eq, s8_eq, s9_eq]
noncomputable def get_x (Fc : List AV → List AO → Option (AV × List AO)) : {f : AS → Option (AF × AS) // (get_d Fc).1 = f} := by
  refine' ⟨_, _⟩
  rotate_left
  · conv =>
      lhs
      simp only [get_d, aFor, aSeq, aAssign, aAssignT, aAug, bBin, aCmp, aIf, aAnd, aOr, aMeth, aMethF, aCons, aNil, aList, aTuple, aNew, aLoc, aSt, aRng, aLst, rngA, rngK, okA, o1, o2, iAdd, iSub, iMod, iDiv, iPow, iShl, iAnd, iXor, iLt, iGe, isN, isNN, aTruth, aSub, aItem, aPut, aSetSub, aAugSub, aCall, bMax, bCount, bAppend, bLen, bPop, arg1, arg2, arg3, aExpr, isLst, isTxt, endLoop, bStr, bJoin, bTab, bHex, bFlag, bSplit, bSub1, bSub2, aComp, aTup2, sAdd, sNe, lCmp, aAttr, isIns, aSetA, aNewI, onTf, aConv, bSorted, loopF_L, seqA_b, bindP_some, bindP_none, bindP_bindP, bindP_onSome, onSome_bindP, onSome_onSome, onSome_some', onSome_none, bindP_onBool, onSome_onBool, onBool_true, bindP_onInt, onSome_onInt, onInt_con, bindP_onRef, onSome_onRef, onRef_con, bindP_onStr, onSome_onStr, onStr_con, bindP_onNat, onSome_onNat, onNat_con, bindP_onList, onSome_onList, nthR_setR_ne, Nat.reduceBEq]
      try simp only [g0_eq, g1_eq, g2_eq, g3_eq, g4_eq, g5_eq, g6_eq, g7_eq, g8_eq, g9_eq, s0_eq, s1_eq, s2_eq, s3_eq, s4_eq, s5_eq, s6_eq, s7_eq, s8_eq, s9_eq]
noncomputable def keys_x : {f : AS → Option (AF × AS) // keys_d.1 = f} := by
  refine' ⟨_, _⟩
  rotate_left
  · conv =>
      lhs
      simp only [keys_d, aFor, aSeq, aAssign, aAssignT, aAug, bBin, aCmp, aIf, aAnd, aOr, aMeth, aMethF, aCons, aNil, aList, aTuple, aNew, aLoc, aSt, aRng, aLst, rngA, rngK, okA, o1, o2, iAdd, iSub, iMod, iDiv, iPow, iShl, iAnd, iXor, iLt, iGe, isN, isNN, aTruth, aSub, aItem, aPut, aSetSub, aAugSub, aCall, bMax, bCount, bAppend, bLen, bPop, arg1, arg2, arg3, aExpr, isLst, isTxt, endLoop, bStr, bJoin, bTab, bHex, bFlag, bSplit, bSub1, bSub2, aComp, aTup2, sAdd, sNe, lCmp, aAttr, isIns, aSetA, aNewI, onTf, aConv, bSorted, loopF_L, seqA_b, bindP_some, bindP_none, bindP_bindP, bindP_onSome, onSome_bindP, onSome_onSome, onSome_some', onSome_none, bindP_onBool, onSome_onBool, onBool_true, bindP_onInt, onSome_onInt, onInt_con, bindP_onRef, onSome_onRef, onRef_con, bindP_onStr, onSome_onStr, onStr_con, bindP_onNat, onSome_onNat, onNat_con, bindP_onList, onSome_onList, nthR_setR_ne, Nat.reduceBEq]
      try simp only [g0_eq, g1_eq, g2_eq, g3_eq, g4_eq, g5_eq, g6_eq, g7_eq, g8_eq, g9_eq, s0_eq, s1_eq, s2_eq, s3_eq, s4_eq, s5_eq, s6_eq, s7_eq, s8_eq, s9_eq]
noncomputable def setd_x (Fg Fct Fcf : List AV → List AO → Option (AV × List AO)) : {f : AS → Option (AF × AS) // (setd_d Fg Fct Fcf).1 = f} := by
  refine' ⟨_, _⟩
  rotate_left
  · conv =>
      lhs
      simp only [setd_d, aFor, aSeq, aAssign, aAssignT, aAug, bBin, aCmp, aIf, aAnd, aOr, aMeth, aMethF, aCons, aNil, aList, aTuple, aNew, aLoc, aSt, aRng, aLst, rngA, rngK, okA, o1, o2, iAdd, iSub, iMod, iDiv, iPow, iShl, iAnd, iXor, iLt, iGe, isN, isNN, aTruth, aSub, aItem, aPut, aSetSub, aAugSub, aCall, bMax, bCount, bAppend, bLen, bPop, arg1, arg2, arg3, aExpr, isLst, isTxt, endLoop, bStr, bJoin, bTab, bHex, bFlag, bSplit, bSub1, bSub2, aComp, aTup2, sAdd, sNe, lCmp, aAttr, isIns, aSetA, aNewI, onTf, aConv, bSorted, loopF_L, seqA_b, bindP_some, bindP_none, bindP_bindP, bindP_onSome, onSome_bindP, onSome_onSome, onSome_some', onSome_none, bindP_onBool, onSome_onBool, onBool_true, bindP_onInt, onSome_onInt, onInt_con, bindP_onRef, onSome_onRef, onRef_con, bindP_onStr, onSome_onStr, onStr_con, bindP_onNat, onSome_onNat, onNat_con, bindP_onList, onSome_onList, nthR_setR_ne, Nat.reduceBEq]
      try simp only [g0_eq, g1_eq, g2_eq, g3_eq, g4_eq, g5_eq, g6_eq, g7_eq, g8_eq, g9_eq, s0_eq, s1_eq, s2_eq, s3_eq, s4_eq, s5_eq, s6_eq, s7_eq, s8_eq, s9_eq]
noncomputable def table_x (Fp Fs Fd : List AV → List AO → Option (AV × List AO)) : {f : AS → Option (AF × AS) // (table_d Fp Fs Fd).1 = f} := by
  refine' ⟨_, _⟩
  rotate_left
  · conv =>
      lhs
      simp only [table_d, aFor, aSeq, aAssign, aAssignT, aAug, bBin, aCmp, aIf, aAnd, aOr, aMeth, aMethF, aCons, aNil, aList, aTuple, aNew, aLoc, aSt, aRng, aLst, rngA, rngK, okA, o1, o2, iAdd, iSub, iMod, iDiv, iPow, iShl, iAnd, iXor, iLt, iGe, isN, isNN, aTruth, aSub, aItem, aPut, aSetSub, aAugSub, aCall, bMax, bCount, bAppend, bLen, bPop, arg1, arg2, arg3, aExpr, isLst, isTxt, endLoop, bStr, bJoin, bTab, bHex, bFlag, bSplit, bSub1, bSub2, aComp, aTup2, sAdd, sNe, lCmp, aAttr, isIns, aSetA, aNewI, onTf, aConv, bSorted, loopF_L, seqA_b, bindP_some, bindP_none, bindP_bindP, bindP_onSome, onSome_bindP, onSome_onSome, onSome_some', onSome_none, bindP_onBool, onSome_onBool, onBool_true, bindP_onInt, onSome_onInt, onInt_con, bindP_onRef, onSome_onRef, onRef_con, bindP_onStr, onSome_onStr, onStr_con, bindP_onNat, onSome_onNat, onNat_con, bindP_onList, onSome_onList, nthR_setR_ne, Nat.reduceBEq]
      try simp only [g0_eq, g1_eq, g2_eq, g3_eq, g4_eq, g5_eq, g6_eq, g7_eq, g8_eq, g9_eq, s0_eq, s1_eq, s2_eq, s3_eq, s4_eq, s5_eq, s6_eq, s7_eq, s8_eq, s9_eq]
noncomputable def law_x (Ft Fi Fb Fk Fh Fo Fp : List AV → List AO → Option (AV × List AO)) : {f : AS → Option (AF × AS) // (law_d Ft Fi Fb Fk Fh Fo Fp).1 = f} := by
  refine' ⟨_, _⟩
  rotate_left
  · conv =>
      lhs
      simp only [law_d, aFor, aSeq, aAssign, aAssignT, aAug, bBin, aCmp, aIf, aAnd, aOr, aMeth, aMethF, aCons, aNil, aList, aTuple, aNew, aLoc, aSt, aRng, aLst, rngA, rngK, okA, o1, o2, iAdd, iSub, iMod, iDiv, iPow, iShl, iAnd, iXor, iLt, iGe, isN, isNN, aTruth, aSub, aItem, aPut, aSetSub, aAugSub, aCall, bMax, bCount, bAppend, bLen, bPop, arg1, arg2, arg3, aExpr, isLst, isTxt, endLoop, bStr, bJoin, bTab, bHex, bFlag, bSplit, bSub1, bSub2, aComp, aTup2, sAdd, sNe, lCmp, aAttr, isIns, aSetA, aNewI, onTf, aConv, bSorted, loopF_L, seqA_b, bindP_some, bindP_none, bindP_bindP, bindP_onSome, onSome_bindP, onSome_onSome, onSome_some', onSome_none, bindP_onBool, onSome_onBool, onBool_true, bindP_onInt, onSome_onInt, onInt_con, bindP_onRef, onSome_onRef, onRef_con, bindP_onStr, onSome_onStr, onStr_con, bindP_onNat, onSome_onNat, onNat_con, bindP_onList, onSome_onList, nthR_setR_ne, Nat.reduceBEq]
      try simp only [g0_eq, g1_eq, g2_eq, g3_eq, g4_eq, g5_eq, g6_eq, g7_eq, g8_eq, g9_eq, s0_eq, s1_eq, s2_eq, s3_eq, s4_eq, s5_eq, s6_eq, s7_eq, s8_eq, s9_eq]
end Mine
end
section
open PySem PySem.W PyProof.Rows PySem.Calls PySem.Spec
set_option maxRecDepth 100000
namespace Mine
/- calls on a small ledger: the callee sees but the list that it is given -/
noncomputable def flatV (a : AV) (ih : Bool) : Bool := @AV.rec (fun _ => Bool) ih (fun _ => ih) (fun _ => ih) (fun _ => ih) (fun _ => false) a
noncomputable def flatL (l : List AV) : Bool := @List.rec AV (fun _ => Bool) true (fun a _ ih => flatV a ih) l
theorem vr_flat {σ σ' : List Addr} {a : AV} {v : Value} (e : flatV a true = true) (h : VR σ a v) : VR σ' a v := by
  cases a with
  | ref i => cases e
  | _ => exact h
theorem flatV_true {a : AV} {b : Bool} (e : flatV a b = true) : flatV a true = true ∧ b = true := by
  cases a with
  | ref i => cases e
  | _ => exact ⟨rfl, e⟩
theorem vrs_flat {σ σ' : List Addr} {as : List AV} {vs : List Value} (h : VRs σ as vs) : flatL as = true → VRs σ' as vs := by
  induction h with
  | nil => exact fun _ => .nil
  | cons h _ ih => exact fun e => let q := flatV_true (b := flatL _) e; .cons (vr_flat q.1 h) (ih q.2)

noncomputable def pureF (F : List AV → List AO → Option (AV × List AO)) : List AV → List AO → Option (AV × List AO) := fun as H =>
  onBool (flatL as) (onSome (F as []) fun p => @Prod.rec AV (List AO) (fun _ => Option (AV × List AO)) (fun v _ => onBool (flatV v true) (some (v, H))) p)

noncomputable def renN (n r i : Nat) : Nat := @Nat.rec (fun _ => Nat) r (fun j _ => Nat.add n j) i
noncomputable def renV (n r : Nat) (v : AV) : AV := @AV.rec (fun _ => AV) .none .bool .int .str (fun i => .ref (renN n r i)) v
noncomputable def mapV (n r : Nat) (l : List AV) : List AV := @List.rec AV (fun _ => List AV) [] (fun a _ ih => renV n r a :: ih) l
noncomputable def renO (n r : Nat) (o : AO) : AO := @AO.rec (fun _ => AO) (fun xs => .list (mapV n r xs)) (fun xs => .tuple (mapV n r xs)) (fun c d => .inst c (renN n r d)) (fun k v => .attrs k (renV n r v)) .edict o
noncomputable def mapO (n r : Nat) (l : List AO) : List AO := @List.rec AO (fun _ => List AO) [] (fun a _ ih => renO n r a :: ih) l
theorem mapO_eq (n r : Nat) (l : List AO) : mapO n r l = l.map (renO n r) := by
  induction l with
  | nil => rfl
  | cons a l ih => exact congrArg (renO n r a :: ·) ih
noncomputable def smallF (F : List AV → List AO → Option (AV × List AO)) : List AV → List AO → Option (AV × List AO) := fun as H => arg1 as fun a => onRef a fun r => onList (nthR H r) fun xs => onBool (flatL xs)
  (onSome (F [.ref 0] [.list xs]) fun p => @Prod.rec AV (List AO) (fun _ => Option (AV × List AO)) (fun v H' => @List.rec AO (fun _ => Option (AV × List AO)) none (fun o T _ => some (renV (lenR H) r v, appR (setR H (renO (lenR H) r o) r) (mapO (lenR H) r T))) H') p)

section
variable {σ τ : List Addr} {a0 : Addr} {r : Nat}
theorem ren_at (hr : σ[r]? = some a0) {i : Nat} {a : Addr} (h : ([a0] ++ τ)[i]? = some a) : (σ ++ τ)[renN σ.length r i]? = some a := by
  cases i with
  | zero => cases h; exact get_app hr τ
  | succ j =>
    have e : τ[j]? = some a := by simpa using h
    show (σ ++ τ)[σ.length + j]? = some a
    rw [List.getElem?_append_right (Nat.le_add_right _ _), Nat.add_sub_cancel_left]
    exact e
theorem ren_vr (hr : σ[r]? = some a0) {a : AV} {v : Value} (h : VR ([a0] ++ τ) a v) : VR (σ ++ τ) (renV σ.length r a) v := by
  cases a with
  | ref i => obtain ⟨x, h1, h2⟩ := h; exact ⟨x, ren_at hr h1, h2⟩
  | _ => exact h
theorem ren_vrs (hr : σ[r]? = some a0) {as : List AV} {vs : List Value} (h : VRs ([a0] ++ τ) as vs) : VRs (σ ++ τ) (mapV σ.length r as) vs := by
  induction h with
  | nil => exact .nil
  | cons h _ ih => exact .cons (ren_vr hr h) ih
theorem ren_or (hr : σ[r]? = some a0) {a : AO} {o : Obj} (h : OR ([a0] ++ τ) a o) : OR (σ ++ τ) (renO σ.length r a) o := by
  cases a with
  | list xs => obtain ⟨vs, n, e, q⟩ := h; exact ⟨vs, n, e, ren_vrs hr q⟩
  | tuple xs => obtain ⟨vs, n, e, q⟩ := h; exact ⟨vs, n, e, ren_vrs hr q⟩
  | inst c d => obtain ⟨a, h1, h2⟩ := h; exact ⟨a, ren_at hr h1, h2⟩
  | attrs k v => obtain ⟨x, b, c, d, e, q⟩ := h; exact ⟨x, b, c, d, e, ren_vr hr q⟩
  | edict => exact h
end

theorem SFun.pure {M : Model} {B : Kp → Prop} (hB : ∀ κ κ', leK κ κ' → B κ → B κ') {d u : Nat} {o : List Value → Sem Value} {F : List AV → List AO → Option (AV × List AO)} (hF : SFun M B d u o F) : SFun M B d u o (pureF F) := by
  intro A κ as as' σ H s v H' hh hd hu bk R ha e Q hQ
  obtain ⟨hfl, e⟩ := onBool_some e
  obtain ⟨⟨v1, H1⟩, e1, e⟩ := onSome_some e
  obtain ⟨hv, e⟩ := onBool_some e
  cases e
  refine hF A (fun b => s.heap.get? b) as as' [] [] s v H1 hh hd hu (hB _ _ (fun b o q => R.keep b o q) bk) ⟨fun b o q => q, (fun a h => (by cases h)), List.nodup_nil, rfl, fun i ao e => (by cases e)⟩ (vrs_flat ha hfl) e1 Q ?_
  intro τ h' tk' v' R' keep fr hv'
  have g : ∀ b o, s.heap.get? b = some o → h'.get? b = some o := fun b o q => keep b o (fun h => (by cases h)) q
  exact hQ [] h' tk' v' (by rw [List.append_nil]; exact R.grow g) (fun b o _ q => g b o q) (fun a h => (by cases h)) (vr_flat hv hv')

theorem SFun.small {M : Model} {B : Kp → Prop} (hB : ∀ κ κ', leK κ κ' → B κ → B κ') {d u : Nat} {o : List Value → Sem Value} {F : List AV → List AO → Option (AV × List AO)} (hF : SFun M B d u o F) : SFun M B d u o (smallF F) := by
  intro A κ as as' σ H s v Hn hh hd hu bk R ha e Q hQ
  obtain ⟨a, rfl, e⟩ := arg1_some e
  obtain ⟨r, rfl, e⟩ := onRef_some e
  obtain ⟨xs, hx, e⟩ := onList_some e
  rw [nthR_eq] at hx
  obtain ⟨hfl, e⟩ := onBool_some e
  obtain ⟨⟨v1, H1⟩, e1, e⟩ := onSome_some e
  obtain ⟨a0, ob, hr, ho, hor⟩ := R.objs r _ hx
  have hlen : lenR H = σ.length := by rw [lenR_eq]; exact R.len
  cases H1 with
  | nil => cases e
  | cons o1 T =>
    have e' : some (renV (lenR H) r v1, appR (setR H (renO (lenR H) r o1) r) (mapO (lenR H) r T)) = some (v, Hn) := e
    rw [hlen, appR_eq, setR_eq, mapO_eq] at e'
    cases e'
    let κ1 : Kp := fun b => if b = a0 then none else s.heap.get? b
    have hle : leK κ κ1 := fun b ob' q => by
      show (if b = a0 then none else s.heap.get? b) = some ob'
      rw [if_neg (fun q' => by rw [q', R.off a0 (List.mem_of_getElem? hr)] at q; cases q)]
      exact R.keep b ob' q
    cases ha with
    | cons hv0 ht =>
      cases ht
      obtain ⟨x0, hx0, rfl⟩ := hv0
      rw [hr] at hx0
      cases hx0
      have R1 : RH κ1 [a0] [.list xs] s.heap := by
        refine ⟨fun b ob' q => ?_, fun b hb => ?_, by simp, rfl, fun i ao q => ?_⟩
        · have q' : (if b = a0 then none else s.heap.get? b) = some ob' := q
          split at q'
          · cases q'
          · exact q'
        · rw [List.mem_singleton.mp hb]; exact if_pos rfl
        · cases i with
          | zero =>
            cases q
            obtain ⟨vs, n, e2, hvs⟩ := hor
            exact ⟨a0, ob, rfl, ho, vs, n, e2, vrs_flat hvs hfl⟩
          | succ i => cases q
      refine hF A κ1 [.ref 0] [.ref a0] [a0] [.list xs] s v1 (o1 :: T) hh hd hu (hB _ _ hle bk) R1 (.cons ⟨a0, rfl, rfl⟩ .nil) e1 Q ?_
      intro τ h' tk' v' R' keep fr hv'
      have g : ∀ b ob', b ≠ a0 → s.heap.get? b = some ob' → h'.get? b = some ob' := fun b ob' hb q => keep b ob' (fun hm => hb (List.mem_singleton.mp hm)) q
      have ha0 : a0 ∈ σ := List.mem_of_getElem? hr
      refine hQ τ h' tk' v' ?_ (fun b ob' hb q => g b ob' (fun q' => hb (q' ▸ ha0)) q) fr (ren_vr hr hv')
      refine ⟨fun b ob' q => R'.keep b ob' (hle b ob' q), fun b hb => ?_, ?_, ?_, fun i ao q => ?_⟩
      · rcases List.mem_append.mp hb with hb | hb
        · exact R.off b hb
        · cases qk : κ b with
          | none => rfl
          | some ob' =>
            have := R'.off b (List.mem_append_right _ hb)
            rw [hle b ob' qk] at this
            cases this
      · refine List.nodup_append.mpr ⟨R.nd, (List.nodup_append.mp R'.nd).2.1, fun b hb c hc q => ?_⟩
        subst q
        have h1 := R.lt hb
        obtain ⟨i, hi, q⟩ := List.mem_iff_getElem.mp hb
        obtain ⟨a', o', h3, h4, _⟩ := R.objs i (H[i]'(by rw [R.len]; exact hi)) (by simp)
        rw [List.getElem?_eq_getElem hi, q] at h3
        cases h3
        rw [fr _ hc] at h4
        cases h4
      · have := R'.len
        simp only [List.length_cons, List.length_append, List.length_nil] at this
        rw [List.length_append, List.length_append, List.length_set, List.length_map, R.len]
        omega
      · by_cases hi : i < σ.length
        · rw [List.getElem?_append_left (by rw [List.length_set, R.len]; exact hi)] at q
          by_cases hir : i = r
          · subst hir
            rw [List.getElem?_set_self (by rw [R.len]; exact hi)] at q
            cases q
            obtain ⟨a1, o2, h1, h2, h3⟩ := R'.objs 0 o1 rfl
            cases h1
            exact ⟨a0, o2, get_app hr τ, h2, ren_or hr h3⟩
          · rw [List.getElem?_set_ne (Ne.symm hir)] at q
            obtain ⟨a1, o2, h1, h2, h3⟩ := R.objs i ao q
            exact ⟨a1, o2, get_app h1 τ, g a1 o2 (fun q' => hir (nodup_get R.nd (q' ▸ h1) hr)) h2, h3.mono τ⟩
        · have hge : σ.length ≤ i := Nat.le_of_not_lt hi
          rw [List.getElem?_append_right (by rw [List.length_set, R.len]; exact hge), List.length_set, R.len, List.getElem?_map] at q
          obtain ⟨t, ht, rfl⟩ := Option.map_eq_some_iff.mp q
          obtain ⟨a1, o2, h1, h2, h3⟩ := R'.objs (i - σ.length + 1) t (by simpa using ht)
          refine ⟨a1, o2, ?_, h2, ren_or hr h3⟩
          rw [List.getElem?_append_right hge]
          simpa using h1
end Mine
end
section
open PySem PySem.W PyProof.Rows PySem.Calls PySem.Spec
set_option maxRecDepth 100000
namespace Mine
noncomputable def mkF (n nl : Nat) (f : AS → Option (AF × AS)) (dflts : List AV) : List AV → List AO → Option (AV × List AO) := fun as H => onBool (Nat.beq (lenR as) n) (bodyF nl f (appR as dflts) H)
noncomputable def Fdriven := mkF 2 3 driven_d.1 []
noncomputable def Ftold := mkF 1 7 told_d.1 []
noncomputable def Fbis := mkF 2 1 bis_d.1 [.int 0, .none, .none]
noncomputable def Fpretty := mkF 1 3 pretty_d.1 []
noncomputable def Fquote := mkF 1 0 quote_d.1 []
noncomputable def Fhalves := mkF 1 5 (halves_d Fbis Fdriven).1 []
noncomputable def Fonce := mkF 1 6 (once_d Fquote Fdriven).1 []
noncomputable def Fconv (b : Bool) := mkF 2 0 conv_d.1 [.bool b]
noncomputable def Finit := mkF 1 2 init_d.1 [.none]
noncomputable def Fget := mkF 2 2 (get_d (Fconv true)).1 [.none]
noncomputable def Fkeys := mkF 1 0 keys_d.1 []
noncomputable def Fsetd := mkF 3 1 (setd_d Fget (Fconv true) (Fconv false)).1 []
noncomputable def Ftable := mkF 2 5 (table_d (pureF Fpretty) Fsetd Fdriven).1 []
noncomputable def lawF := (law_d (smallF Ftold) Finit Ftable Fkeys (smallF Fhalves) (smallF Fonce) (pureF Fpretty)).1
noncomputable def isTrueR (r : Option (AF × AS)) : Bool := @Option.rec (AF × AS) (fun _ => Bool) false (fun p => @AF.rec (fun _ => Bool) false false false (fun v => @AV.rec (fun _ => Bool) false (fun b => b) (fun _ => false) (fun _ => false) (fun _ => false) v) p.1) r
noncomputable def lawOk (ws : List AV) : Bool := isTrueR (lawF ⟨[none, none, none, none, none, none], [], [.list ws]⟩)

/- the same, fused -/
noncomputable def Xdriven := mkF 2 3 driven_x.1 []
noncomputable def Xtold := mkF 1 7 told_x.1 []
noncomputable def Xbis := mkF 2 1 bis_x.1 [.int 0, .none, .none]
noncomputable def Xpretty := mkF 1 3 pretty_x.1 []
noncomputable def Xquote := mkF 1 0 quote_x.1 []
noncomputable def Xhalves := mkF 1 5 (halves_x Xbis Xdriven).1 []
noncomputable def Xonce := mkF 1 6 (once_x Xquote Xdriven).1 []
noncomputable def Xconv (b : Bool) := mkF 2 0 conv_x.1 [.bool b]
noncomputable def Xinit := mkF 1 2 init_x.1 [.none]
noncomputable def Xget := mkF 2 2 (get_x (Xconv true)).1 [.none]
noncomputable def Xkeys := mkF 1 0 keys_x.1 []
noncomputable def Xsetd := mkF 3 1 (setd_x Xget (Xconv true) (Xconv false)).1 []
noncomputable def Xtable := mkF 2 5 (table_x (pureF Xpretty) Xsetd Xdriven).1 []
noncomputable def lawX := (law_x (smallF Xtold) Xinit Xtable Xkeys (smallF Xhalves) (smallF Xonce) (pureF Xpretty)).1
noncomputable def lawOkX (ws : List AV) : Bool := isTrueR (lawX ⟨[none, none, none, none, none, none], [], [.list ws]⟩)
theorem Xdriven_eq : Xdriven = Fdriven := congrArg (mkF 2 3 · []) driven_x.2.symm
theorem Xtold_eq : Xtold = Ftold := congrArg (mkF 1 7 · []) told_x.2.symm
theorem Xbis_eq : Xbis = Fbis := congrArg (mkF 2 1 · [.int 0, .none, .none]) bis_x.2.symm
theorem Xpretty_eq : Xpretty = Fpretty := congrArg (mkF 1 3 · []) pretty_x.2.symm
theorem Xquote_eq : Xquote = Fquote := congrArg (mkF 1 0 · []) quote_x.2.symm
theorem Xhalves_eq : Xhalves = Fhalves := by unfold Xhalves Fhalves; rw [← (halves_x Xbis Xdriven).2, Xbis_eq, Xdriven_eq]
theorem Xonce_eq : Xonce = Fonce := by unfold Xonce Fonce; rw [← (once_x Xquote Xdriven).2, Xquote_eq, Xdriven_eq]
theorem Xconv_eq (b : Bool) : Xconv b = Fconv b := congrArg (mkF 2 0 · [.bool b]) conv_x.2.symm
theorem Xinit_eq : Xinit = Finit := congrArg (mkF 1 2 · [.none]) init_x.2.symm
theorem Xget_eq : Xget = Fget := by unfold Xget Fget; rw [← (get_x (Xconv true)).2, Xconv_eq]
theorem Xkeys_eq : Xkeys = Fkeys := congrArg (mkF 1 0 · []) keys_x.2.symm
theorem Xsetd_eq : Xsetd = Fsetd := by unfold Xsetd Fsetd; rw [← (setd_x Xget (Xconv true) (Xconv false)).2, Xget_eq, Xconv_eq, Xconv_eq]
theorem Xtable_eq : Xtable = Ftable := by unfold Xtable Ftable; rw [← (table_x (pureF Xpretty) Xsetd Xdriven).2, Xpretty_eq, Xsetd_eq, Xdriven_eq]
theorem lawX_eq : lawX = lawF := by
  unfold lawX lawF
  rw [← (law_x (smallF Xtold) Xinit Xtable Xkeys (smallF Xhalves) (smallF Xonce) (pureF Xpretty)).2, Xtold_eq, Xinit_eq, Xtable_eq, Xkeys_eq, Xhalves_eq, Xonce_eq, Xpretty_eq]
theorem lawOk_of {ws : List AV} (h : lawOkX ws = true) : lawOk ws = true := by
  unfold lawOkX at h
  rw [lawX_eq] at h
  exact h
end Mine
end
section
open PySem PySem.W PyProof.Rows PySem.Calls PySem.Spec
set_option maxRecDepth 100000
namespace Mine
theorem fmod7 (x : Int) : ∃ i : Nat, i < 7 ∧ x.fmod 7 = .ofNat i := by
  have h : x.fmod 7 = x % 7 := Int.fmod_eq_emod_of_nonneg x (by decide)
  have h0 : 0 ≤ x % 7 := Int.emod_nonneg x (by decide)
  have h1 : x % 7 < 7 := Int.emod_lt_of_pos x (by decide)
  refine ⟨(x % 7).toNat, by omega, ?_⟩
  rw [h]
  show _ = (((x % 7).toNat : Nat) : Int)
  omega
abbrev W (n : Nat) (r : List AV) : List AV := .int (.ofNat n) :: r
abbrev ws0 : List AV := [.int (.ofNat 5), .int (.ofNat 6), .int (.ofNat 5), .int (.ofNat 5)]
theorem below7 {P : Nat → Prop} (h0 : P 0) (h1 : P 1) (h2 : P 2) (h3 : P 3) (h4 : P 4) (h5 : P 5) (h6 : P 6) : ∀ n, n < 7 → P n
  | 0, _ => h0
  | 1, _ => h1
  | 2, _ => h2
  | 3, _ => h3
  | 4, _ => h4
  | 5, _ => h5
  | 6, _ => h6
  | n + 7, h => absurd h (Nat.not_lt.mpr (Nat.le_add_left 7 n))
theorem vz : lawOkX (ws0) = true := by kernel_rfl
theorem v0 : lawOkX (W 0 <| ws0) = true := by kernel_rfl
theorem v1 : lawOkX (W 1 <| ws0) = true := by kernel_rfl
theorem v2 : lawOkX (W 2 <| ws0) = true := by kernel_rfl
theorem v3 : lawOkX (W 3 <| ws0) = true := by kernel_rfl
theorem v4 : lawOkX (W 4 <| ws0) = true := by kernel_rfl
theorem v5 : lawOkX (W 5 <| ws0) = true := by kernel_rfl
theorem v6 : lawOkX (W 6 <| ws0) = true := by kernel_rfl
theorem v00 : lawOkX (W 0 <| W 0 <| ws0) = true := by kernel_rfl
theorem v01 : lawOkX (W 0 <| W 1 <| ws0) = true := by kernel_rfl
theorem v02 : lawOkX (W 0 <| W 2 <| ws0) = true := by kernel_rfl
theorem v03 : lawOkX (W 0 <| W 3 <| ws0) = true := by kernel_rfl
theorem v04 : lawOkX (W 0 <| W 4 <| ws0) = true := by kernel_rfl
theorem v05 : lawOkX (W 0 <| W 5 <| ws0) = true := by kernel_rfl
theorem v06 : lawOkX (W 0 <| W 6 <| ws0) = true := by kernel_rfl
theorem v10 : lawOkX (W 1 <| W 0 <| ws0) = true := by kernel_rfl
theorem v11 : lawOkX (W 1 <| W 1 <| ws0) = true := by kernel_rfl
theorem v12 : lawOkX (W 1 <| W 2 <| ws0) = true := by kernel_rfl
theorem v13 : lawOkX (W 1 <| W 3 <| ws0) = true := by kernel_rfl
theorem v14 : lawOkX (W 1 <| W 4 <| ws0) = true := by kernel_rfl
theorem v15 : lawOkX (W 1 <| W 5 <| ws0) = true := by kernel_rfl
theorem v16 : lawOkX (W 1 <| W 6 <| ws0) = true := by kernel_rfl
theorem v20 : lawOkX (W 2 <| W 0 <| ws0) = true := by kernel_rfl
theorem v21 : lawOkX (W 2 <| W 1 <| ws0) = true := by kernel_rfl
theorem v22 : lawOkX (W 2 <| W 2 <| ws0) = true := by kernel_rfl
theorem v23 : lawOkX (W 2 <| W 3 <| ws0) = true := by kernel_rfl
theorem v24 : lawOkX (W 2 <| W 4 <| ws0) = true := by kernel_rfl
theorem v25 : lawOkX (W 2 <| W 5 <| ws0) = true := by kernel_rfl
theorem v26 : lawOkX (W 2 <| W 6 <| ws0) = true := by kernel_rfl
theorem v30 : lawOkX (W 3 <| W 0 <| ws0) = true := by kernel_rfl
theorem v31 : lawOkX (W 3 <| W 1 <| ws0) = true := by kernel_rfl
theorem v32 : lawOkX (W 3 <| W 2 <| ws0) = true := by kernel_rfl
theorem v33 : lawOkX (W 3 <| W 3 <| ws0) = true := by kernel_rfl
theorem v34 : lawOkX (W 3 <| W 4 <| ws0) = true := by kernel_rfl
theorem v35 : lawOkX (W 3 <| W 5 <| ws0) = true := by kernel_rfl
theorem v36 : lawOkX (W 3 <| W 6 <| ws0) = true := by kernel_rfl
theorem v40 : lawOkX (W 4 <| W 0 <| ws0) = true := by kernel_rfl
theorem v41 : lawOkX (W 4 <| W 1 <| ws0) = true := by kernel_rfl
theorem v42 : lawOkX (W 4 <| W 2 <| ws0) = true := by kernel_rfl
theorem v43 : lawOkX (W 4 <| W 3 <| ws0) = true := by kernel_rfl
theorem v44 : lawOkX (W 4 <| W 4 <| ws0) = true := by kernel_rfl
theorem v45 : lawOkX (W 4 <| W 5 <| ws0) = true := by kernel_rfl
theorem v46 : lawOkX (W 4 <| W 6 <| ws0) = true := by kernel_rfl
theorem v50 : lawOkX (W 5 <| W 0 <| ws0) = true := by kernel_rfl
theorem v51 : lawOkX (W 5 <| W 1 <| ws0) = true := by kernel_rfl
theorem v52 : lawOkX (W 5 <| W 2 <| ws0) = true := by kernel_rfl
theorem v53 : lawOkX (W 5 <| W 3 <| ws0) = true := by kernel_rfl
theorem v54 : lawOkX (W 5 <| W 4 <| ws0) = true := by kernel_rfl
theorem v55 : lawOkX (W 5 <| W 5 <| ws0) = true := by kernel_rfl
theorem v56 : lawOkX (W 5 <| W 6 <| ws0) = true := by kernel_rfl
theorem v60 : lawOkX (W 6 <| W 0 <| ws0) = true := by kernel_rfl
theorem v61 : lawOkX (W 6 <| W 1 <| ws0) = true := by kernel_rfl
theorem v62 : lawOkX (W 6 <| W 2 <| ws0) = true := by kernel_rfl
theorem v63 : lawOkX (W 6 <| W 3 <| ws0) = true := by kernel_rfl
theorem v64 : lawOkX (W 6 <| W 4 <| ws0) = true := by kernel_rfl
theorem v65 : lawOkX (W 6 <| W 5 <| ws0) = true := by kernel_rfl
theorem v66 : lawOkX (W 6 <| W 6 <| ws0) = true := by kernel_rfl
theorem v000 : lawOkX (W 0 <| W 0 <| W 0 <| ws0) = true := by kernel_rfl
theorem v001 : lawOkX (W 0 <| W 0 <| W 1 <| ws0) = true := by kernel_rfl
theorem v002 : lawOkX (W 0 <| W 0 <| W 2 <| ws0) = true := by kernel_rfl
theorem v003 : lawOkX (W 0 <| W 0 <| W 3 <| ws0) = true := by kernel_rfl
theorem v004 : lawOkX (W 0 <| W 0 <| W 4 <| ws0) = true := by kernel_rfl
theorem v005 : lawOkX (W 0 <| W 0 <| W 5 <| ws0) = true := by kernel_rfl
theorem v006 : lawOkX (W 0 <| W 0 <| W 6 <| ws0) = true := by kernel_rfl
theorem v010 : lawOkX (W 0 <| W 1 <| W 0 <| ws0) = true := by kernel_rfl
theorem v011 : lawOkX (W 0 <| W 1 <| W 1 <| ws0) = true := by kernel_rfl
theorem v012 : lawOkX (W 0 <| W 1 <| W 2 <| ws0) = true := by kernel_rfl
theorem v013 : lawOkX (W 0 <| W 1 <| W 3 <| ws0) = true := by kernel_rfl
theorem v014 : lawOkX (W 0 <| W 1 <| W 4 <| ws0) = true := by kernel_rfl
theorem v015 : lawOkX (W 0 <| W 1 <| W 5 <| ws0) = true := by kernel_rfl
theorem v016 : lawOkX (W 0 <| W 1 <| W 6 <| ws0) = true := by kernel_rfl
theorem v020 : lawOkX (W 0 <| W 2 <| W 0 <| ws0) = true := by kernel_rfl
theorem v021 : lawOkX (W 0 <| W 2 <| W 1 <| ws0) = true := by kernel_rfl
theorem v022 : lawOkX (W 0 <| W 2 <| W 2 <| ws0) = true := by kernel_rfl
theorem v023 : lawOkX (W 0 <| W 2 <| W 3 <| ws0) = true := by kernel_rfl
theorem v024 : lawOkX (W 0 <| W 2 <| W 4 <| ws0) = true := by kernel_rfl
theorem v025 : lawOkX (W 0 <| W 2 <| W 5 <| ws0) = true := by kernel_rfl
theorem v026 : lawOkX (W 0 <| W 2 <| W 6 <| ws0) = true := by kernel_rfl
theorem v030 : lawOkX (W 0 <| W 3 <| W 0 <| ws0) = true := by kernel_rfl
theorem v031 : lawOkX (W 0 <| W 3 <| W 1 <| ws0) = true := by kernel_rfl
theorem v032 : lawOkX (W 0 <| W 3 <| W 2 <| ws0) = true := by kernel_rfl
theorem v033 : lawOkX (W 0 <| W 3 <| W 3 <| ws0) = true := by kernel_rfl
theorem v034 : lawOkX (W 0 <| W 3 <| W 4 <| ws0) = true := by kernel_rfl
theorem v035 : lawOkX (W 0 <| W 3 <| W 5 <| ws0) = true := by kernel_rfl
theorem v036 : lawOkX (W 0 <| W 3 <| W 6 <| ws0) = true := by kernel_rfl
theorem v040 : lawOkX (W 0 <| W 4 <| W 0 <| ws0) = true := by kernel_rfl
theorem v041 : lawOkX (W 0 <| W 4 <| W 1 <| ws0) = true := by kernel_rfl
theorem v042 : lawOkX (W 0 <| W 4 <| W 2 <| ws0) = true := by kernel_rfl
theorem v043 : lawOkX (W 0 <| W 4 <| W 3 <| ws0) = true := by kernel_rfl
theorem v044 : lawOkX (W 0 <| W 4 <| W 4 <| ws0) = true := by kernel_rfl
theorem v045 : lawOkX (W 0 <| W 4 <| W 5 <| ws0) = true := by kernel_rfl
theorem v046 : lawOkX (W 0 <| W 4 <| W 6 <| ws0) = true := by kernel_rfl
theorem v050 : lawOkX (W 0 <| W 5 <| W 0 <| ws0) = true := by kernel_rfl
theorem v051 : lawOkX (W 0 <| W 5 <| W 1 <| ws0) = true := by kernel_rfl
theorem v052 : lawOkX (W 0 <| W 5 <| W 2 <| ws0) = true := by kernel_rfl
theorem v053 : lawOkX (W 0 <| W 5 <| W 3 <| ws0) = true := by kernel_rfl
theorem v054 : lawOkX (W 0 <| W 5 <| W 4 <| ws0) = true := by kernel_rfl
theorem v055 : lawOkX (W 0 <| W 5 <| W 5 <| ws0) = true := by kernel_rfl
theorem v056 : lawOkX (W 0 <| W 5 <| W 6 <| ws0) = true := by kernel_rfl
theorem v060 : lawOkX (W 0 <| W 6 <| W 0 <| ws0) = true := by kernel_rfl
theorem v061 : lawOkX (W 0 <| W 6 <| W 1 <| ws0) = true := by kernel_rfl
theorem v062 : lawOkX (W 0 <| W 6 <| W 2 <| ws0) = true := by kernel_rfl
theorem v063 : lawOkX (W 0 <| W 6 <| W 3 <| ws0) = true := by kernel_rfl
theorem v064 : lawOkX (W 0 <| W 6 <| W 4 <| ws0) = true := by kernel_rfl
theorem v065 : lawOkX (W 0 <| W 6 <| W 5 <| ws0) = true := by kernel_rfl
theorem v066 : lawOkX (W 0 <| W 6 <| W 6 <| ws0) = true := by kernel_rfl
theorem v100 : lawOkX (W 1 <| W 0 <| W 0 <| ws0) = true := by kernel_rfl
theorem v101 : lawOkX (W 1 <| W 0 <| W 1 <| ws0) = true := by kernel_rfl
theorem v102 : lawOkX (W 1 <| W 0 <| W 2 <| ws0) = true := by kernel_rfl
theorem v103 : lawOkX (W 1 <| W 0 <| W 3 <| ws0) = true := by kernel_rfl
theorem v104 : lawOkX (W 1 <| W 0 <| W 4 <| ws0) = true := by kernel_rfl
theorem v105 : lawOkX (W 1 <| W 0 <| W 5 <| ws0) = true := by kernel_rfl
theorem v106 : lawOkX (W 1 <| W 0 <| W 6 <| ws0) = true := by kernel_rfl
theorem v110 : lawOkX (W 1 <| W 1 <| W 0 <| ws0) = true := by kernel_rfl
theorem v111 : lawOkX (W 1 <| W 1 <| W 1 <| ws0) = true := by kernel_rfl
theorem v112 : lawOkX (W 1 <| W 1 <| W 2 <| ws0) = true := by kernel_rfl
theorem v113 : lawOkX (W 1 <| W 1 <| W 3 <| ws0) = true := by kernel_rfl
theorem v114 : lawOkX (W 1 <| W 1 <| W 4 <| ws0) = true := by kernel_rfl
theorem v115 : lawOkX (W 1 <| W 1 <| W 5 <| ws0) = true := by kernel_rfl
theorem v116 : lawOkX (W 1 <| W 1 <| W 6 <| ws0) = true := by kernel_rfl
theorem v120 : lawOkX (W 1 <| W 2 <| W 0 <| ws0) = true := by kernel_rfl
theorem v121 : lawOkX (W 1 <| W 2 <| W 1 <| ws0) = true := by kernel_rfl
theorem v122 : lawOkX (W 1 <| W 2 <| W 2 <| ws0) = true := by kernel_rfl
theorem v123 : lawOkX (W 1 <| W 2 <| W 3 <| ws0) = true := by kernel_rfl
theorem v124 : lawOkX (W 1 <| W 2 <| W 4 <| ws0) = true := by kernel_rfl
theorem v125 : lawOkX (W 1 <| W 2 <| W 5 <| ws0) = true := by kernel_rfl
theorem v126 : lawOkX (W 1 <| W 2 <| W 6 <| ws0) = true := by kernel_rfl
theorem v130 : lawOkX (W 1 <| W 3 <| W 0 <| ws0) = true := by kernel_rfl
theorem v131 : lawOkX (W 1 <| W 3 <| W 1 <| ws0) = true := by kernel_rfl
theorem v132 : lawOkX (W 1 <| W 3 <| W 2 <| ws0) = true := by kernel_rfl
theorem v133 : lawOkX (W 1 <| W 3 <| W 3 <| ws0) = true := by kernel_rfl
theorem v134 : lawOkX (W 1 <| W 3 <| W 4 <| ws0) = true := by kernel_rfl
theorem v135 : lawOkX (W 1 <| W 3 <| W 5 <| ws0) = true := by kernel_rfl
theorem v136 : lawOkX (W 1 <| W 3 <| W 6 <| ws0) = true := by kernel_rfl
theorem v140 : lawOkX (W 1 <| W 4 <| W 0 <| ws0) = true := by kernel_rfl
theorem v141 : lawOkX (W 1 <| W 4 <| W 1 <| ws0) = true := by kernel_rfl
theorem v142 : lawOkX (W 1 <| W 4 <| W 2 <| ws0) = true := by kernel_rfl
theorem v143 : lawOkX (W 1 <| W 4 <| W 3 <| ws0) = true := by kernel_rfl
theorem v144 : lawOkX (W 1 <| W 4 <| W 4 <| ws0) = true := by kernel_rfl
theorem v145 : lawOkX (W 1 <| W 4 <| W 5 <| ws0) = true := by kernel_rfl
theorem v146 : lawOkX (W 1 <| W 4 <| W 6 <| ws0) = true := by kernel_rfl
theorem v150 : lawOkX (W 1 <| W 5 <| W 0 <| ws0) = true := by kernel_rfl
theorem v151 : lawOkX (W 1 <| W 5 <| W 1 <| ws0) = true := by kernel_rfl
theorem v152 : lawOkX (W 1 <| W 5 <| W 2 <| ws0) = true := by kernel_rfl
theorem v153 : lawOkX (W 1 <| W 5 <| W 3 <| ws0) = true := by kernel_rfl
theorem v154 : lawOkX (W 1 <| W 5 <| W 4 <| ws0) = true := by kernel_rfl
theorem v155 : lawOkX (W 1 <| W 5 <| W 5 <| ws0) = true := by kernel_rfl
theorem v156 : lawOkX (W 1 <| W 5 <| W 6 <| ws0) = true := by kernel_rfl
theorem v160 : lawOkX (W 1 <| W 6 <| W 0 <| ws0) = true := by kernel_rfl
theorem v161 : lawOkX (W 1 <| W 6 <| W 1 <| ws0) = true := by kernel_rfl
theorem v162 : lawOkX (W 1 <| W 6 <| W 2 <| ws0) = true := by kernel_rfl
theorem v163 : lawOkX (W 1 <| W 6 <| W 3 <| ws0) = true := by kernel_rfl
theorem v164 : lawOkX (W 1 <| W 6 <| W 4 <| ws0) = true := by kernel_rfl
theorem v165 : lawOkX (W 1 <| W 6 <| W 5 <| ws0) = true := by kernel_rfl
theorem v166 : lawOkX (W 1 <| W 6 <| W 6 <| ws0) = true := by kernel_rfl
theorem v200 : lawOkX (W 2 <| W 0 <| W 0 <| ws0) = true := by kernel_rfl
theorem v201 : lawOkX (W 2 <| W 0 <| W 1 <| ws0) = true := by kernel_rfl
theorem v202 : lawOkX (W 2 <| W 0 <| W 2 <| ws0) = true := by kernel_rfl
theorem v203 : lawOkX (W 2 <| W 0 <| W 3 <| ws0) = true := by kernel_rfl
theorem v204 : lawOkX (W 2 <| W 0 <| W 4 <| ws0) = true := by kernel_rfl
theorem v205 : lawOkX (W 2 <| W 0 <| W 5 <| ws0) = true := by kernel_rfl
theorem v206 : lawOkX (W 2 <| W 0 <| W 6 <| ws0) = true := by kernel_rfl
theorem v210 : lawOkX (W 2 <| W 1 <| W 0 <| ws0) = true := by kernel_rfl
theorem v211 : lawOkX (W 2 <| W 1 <| W 1 <| ws0) = true := by kernel_rfl
theorem v212 : lawOkX (W 2 <| W 1 <| W 2 <| ws0) = true := by kernel_rfl
theorem v213 : lawOkX (W 2 <| W 1 <| W 3 <| ws0) = true := by kernel_rfl
theorem v214 : lawOkX (W 2 <| W 1 <| W 4 <| ws0) = true := by kernel_rfl
theorem v215 : lawOkX (W 2 <| W 1 <| W 5 <| ws0) = true := by kernel_rfl
theorem v216 : lawOkX (W 2 <| W 1 <| W 6 <| ws0) = true := by kernel_rfl
theorem v220 : lawOkX (W 2 <| W 2 <| W 0 <| ws0) = true := by kernel_rfl
theorem v221 : lawOkX (W 2 <| W 2 <| W 1 <| ws0) = true := by kernel_rfl
theorem v222 : lawOkX (W 2 <| W 2 <| W 2 <| ws0) = true := by kernel_rfl
theorem v223 : lawOkX (W 2 <| W 2 <| W 3 <| ws0) = true := by kernel_rfl
theorem v224 : lawOkX (W 2 <| W 2 <| W 4 <| ws0) = true := by kernel_rfl
theorem v225 : lawOkX (W 2 <| W 2 <| W 5 <| ws0) = true := by kernel_rfl
theorem v226 : lawOkX (W 2 <| W 2 <| W 6 <| ws0) = true := by kernel_rfl
theorem v230 : lawOkX (W 2 <| W 3 <| W 0 <| ws0) = true := by kernel_rfl
theorem v231 : lawOkX (W 2 <| W 3 <| W 1 <| ws0) = true := by kernel_rfl
theorem v232 : lawOkX (W 2 <| W 3 <| W 2 <| ws0) = true := by kernel_rfl
theorem v233 : lawOkX (W 2 <| W 3 <| W 3 <| ws0) = true := by kernel_rfl
theorem v234 : lawOkX (W 2 <| W 3 <| W 4 <| ws0) = true := by kernel_rfl
theorem v235 : lawOkX (W 2 <| W 3 <| W 5 <| ws0) = true := by kernel_rfl
theorem v236 : lawOkX (W 2 <| W 3 <| W 6 <| ws0) = true := by kernel_rfl
theorem v240 : lawOkX (W 2 <| W 4 <| W 0 <| ws0) = true := by kernel_rfl
theorem v241 : lawOkX (W 2 <| W 4 <| W 1 <| ws0) = true := by kernel_rfl
theorem v242 : lawOkX (W 2 <| W 4 <| W 2 <| ws0) = true := by kernel_rfl
theorem v243 : lawOkX (W 2 <| W 4 <| W 3 <| ws0) = true := by kernel_rfl
theorem v244 : lawOkX (W 2 <| W 4 <| W 4 <| ws0) = true := by kernel_rfl
theorem v245 : lawOkX (W 2 <| W 4 <| W 5 <| ws0) = true := by kernel_rfl
theorem v246 : lawOkX (W 2 <| W 4 <| W 6 <| ws0) = true := by kernel_rfl
theorem v250 : lawOkX (W 2 <| W 5 <| W 0 <| ws0) = true := by kernel_rfl
theorem v251 : lawOkX (W 2 <| W 5 <| W 1 <| ws0) = true := by kernel_rfl
theorem v252 : lawOkX (W 2 <| W 5 <| W 2 <| ws0) = true := by kernel_rfl
theorem v253 : lawOkX (W 2 <| W 5 <| W 3 <| ws0) = true := by kernel_rfl
theorem v254 : lawOkX (W 2 <| W 5 <| W 4 <| ws0) = true := by kernel_rfl
theorem v255 : lawOkX (W 2 <| W 5 <| W 5 <| ws0) = true := by kernel_rfl
theorem v256 : lawOkX (W 2 <| W 5 <| W 6 <| ws0) = true := by kernel_rfl
theorem v260 : lawOkX (W 2 <| W 6 <| W 0 <| ws0) = true := by kernel_rfl
theorem v261 : lawOkX (W 2 <| W 6 <| W 1 <| ws0) = true := by kernel_rfl
theorem v262 : lawOkX (W 2 <| W 6 <| W 2 <| ws0) = true := by kernel_rfl
theorem v263 : lawOkX (W 2 <| W 6 <| W 3 <| ws0) = true := by kernel_rfl
theorem v264 : lawOkX (W 2 <| W 6 <| W 4 <| ws0) = true := by kernel_rfl
theorem v265 : lawOkX (W 2 <| W 6 <| W 5 <| ws0) = true := by kernel_rfl
theorem v266 : lawOkX (W 2 <| W 6 <| W 6 <| ws0) = true := by kernel_rfl
theorem v300 : lawOkX (W 3 <| W 0 <| W 0 <| ws0) = true := by kernel_rfl
theorem v301 : lawOkX (W 3 <| W 0 <| W 1 <| ws0) = true := by kernel_rfl
theorem v302 : lawOkX (W 3 <| W 0 <| W 2 <| ws0) = true := by kernel_rfl
theorem v303 : lawOkX (W 3 <| W 0 <| W 3 <| ws0) = true := by kernel_rfl
theorem v304 : lawOkX (W 3 <| W 0 <| W 4 <| ws0) = true := by kernel_rfl
theorem v305 : lawOkX (W 3 <| W 0 <| W 5 <| ws0) = true := by kernel_rfl
theorem v306 : lawOkX (W 3 <| W 0 <| W 6 <| ws0) = true := by kernel_rfl
theorem v310 : lawOkX (W 3 <| W 1 <| W 0 <| ws0) = true := by kernel_rfl
theorem v311 : lawOkX (W 3 <| W 1 <| W 1 <| ws0) = true := by kernel_rfl
theorem v312 : lawOkX (W 3 <| W 1 <| W 2 <| ws0) = true := by kernel_rfl
theorem v313 : lawOkX (W 3 <| W 1 <| W 3 <| ws0) = true := by kernel_rfl
theorem v314 : lawOkX (W 3 <| W 1 <| W 4 <| ws0) = true := by kernel_rfl
theorem v315 : lawOkX (W 3 <| W 1 <| W 5 <| ws0) = true := by kernel_rfl
theorem v316 : lawOkX (W 3 <| W 1 <| W 6 <| ws0) = true := by kernel_rfl
theorem v320 : lawOkX (W 3 <| W 2 <| W 0 <| ws0) = true := by kernel_rfl
theorem v321 : lawOkX (W 3 <| W 2 <| W 1 <| ws0) = true := by kernel_rfl
theorem v322 : lawOkX (W 3 <| W 2 <| W 2 <| ws0) = true := by kernel_rfl
theorem v323 : lawOkX (W 3 <| W 2 <| W 3 <| ws0) = true := by kernel_rfl
theorem v324 : lawOkX (W 3 <| W 2 <| W 4 <| ws0) = true := by kernel_rfl
theorem v325 : lawOkX (W 3 <| W 2 <| W 5 <| ws0) = true := by kernel_rfl
theorem v326 : lawOkX (W 3 <| W 2 <| W 6 <| ws0) = true := by kernel_rfl
theorem v330 : lawOkX (W 3 <| W 3 <| W 0 <| ws0) = true := by kernel_rfl
theorem v331 : lawOkX (W 3 <| W 3 <| W 1 <| ws0) = true := by kernel_rfl
theorem v332 : lawOkX (W 3 <| W 3 <| W 2 <| ws0) = true := by kernel_rfl
theorem v333 : lawOkX (W 3 <| W 3 <| W 3 <| ws0) = true := by kernel_rfl
theorem v334 : lawOkX (W 3 <| W 3 <| W 4 <| ws0) = true := by kernel_rfl
theorem v335 : lawOkX (W 3 <| W 3 <| W 5 <| ws0) = true := by kernel_rfl
theorem v336 : lawOkX (W 3 <| W 3 <| W 6 <| ws0) = true := by kernel_rfl
theorem v340 : lawOkX (W 3 <| W 4 <| W 0 <| ws0) = true := by kernel_rfl
theorem v341 : lawOkX (W 3 <| W 4 <| W 1 <| ws0) = true := by kernel_rfl
theorem v342 : lawOkX (W 3 <| W 4 <| W 2 <| ws0) = true := by kernel_rfl
theorem v343 : lawOkX (W 3 <| W 4 <| W 3 <| ws0) = true := by kernel_rfl
theorem v344 : lawOkX (W 3 <| W 4 <| W 4 <| ws0) = true := by kernel_rfl
theorem v345 : lawOkX (W 3 <| W 4 <| W 5 <| ws0) = true := by kernel_rfl
theorem v346 : lawOkX (W 3 <| W 4 <| W 6 <| ws0) = true := by kernel_rfl
theorem v350 : lawOkX (W 3 <| W 5 <| W 0 <| ws0) = true := by kernel_rfl
theorem v351 : lawOkX (W 3 <| W 5 <| W 1 <| ws0) = true := by kernel_rfl
theorem v352 : lawOkX (W 3 <| W 5 <| W 2 <| ws0) = true := by kernel_rfl
theorem v353 : lawOkX (W 3 <| W 5 <| W 3 <| ws0) = true := by kernel_rfl
theorem v354 : lawOkX (W 3 <| W 5 <| W 4 <| ws0) = true := by kernel_rfl
theorem v355 : lawOkX (W 3 <| W 5 <| W 5 <| ws0) = true := by kernel_rfl
theorem v356 : lawOkX (W 3 <| W 5 <| W 6 <| ws0) = true := by kernel_rfl
theorem v360 : lawOkX (W 3 <| W 6 <| W 0 <| ws0) = true := by kernel_rfl
theorem v361 : lawOkX (W 3 <| W 6 <| W 1 <| ws0) = true := by kernel_rfl
theorem v362 : lawOkX (W 3 <| W 6 <| W 2 <| ws0) = true := by kernel_rfl
theorem v363 : lawOkX (W 3 <| W 6 <| W 3 <| ws0) = true := by kernel_rfl
theorem v364 : lawOkX (W 3 <| W 6 <| W 4 <| ws0) = true := by kernel_rfl
theorem v365 : lawOkX (W 3 <| W 6 <| W 5 <| ws0) = true := by kernel_rfl
theorem v366 : lawOkX (W 3 <| W 6 <| W 6 <| ws0) = true := by kernel_rfl
theorem v400 : lawOkX (W 4 <| W 0 <| W 0 <| ws0) = true := by kernel_rfl
theorem v401 : lawOkX (W 4 <| W 0 <| W 1 <| ws0) = true := by kernel_rfl
theorem v402 : lawOkX (W 4 <| W 0 <| W 2 <| ws0) = true := by kernel_rfl
theorem v403 : lawOkX (W 4 <| W 0 <| W 3 <| ws0) = true := by kernel_rfl
theorem v404 : lawOkX (W 4 <| W 0 <| W 4 <| ws0) = true := by kernel_rfl
theorem v405 : lawOkX (W 4 <| W 0 <| W 5 <| ws0) = true := by kernel_rfl
theorem v406 : lawOkX (W 4 <| W 0 <| W 6 <| ws0) = true := by kernel_rfl
theorem v410 : lawOkX (W 4 <| W 1 <| W 0 <| ws0) = true := by kernel_rfl
theorem v411 : lawOkX (W 4 <| W 1 <| W 1 <| ws0) = true := by kernel_rfl
theorem v412 : lawOkX (W 4 <| W 1 <| W 2 <| ws0) = true := by kernel_rfl
theorem v413 : lawOkX (W 4 <| W 1 <| W 3 <| ws0) = true := by kernel_rfl
theorem v414 : lawOkX (W 4 <| W 1 <| W 4 <| ws0) = true := by kernel_rfl
theorem v415 : lawOkX (W 4 <| W 1 <| W 5 <| ws0) = true := by kernel_rfl
theorem v416 : lawOkX (W 4 <| W 1 <| W 6 <| ws0) = true := by kernel_rfl
theorem v420 : lawOkX (W 4 <| W 2 <| W 0 <| ws0) = true := by kernel_rfl
theorem v421 : lawOkX (W 4 <| W 2 <| W 1 <| ws0) = true := by kernel_rfl
theorem v422 : lawOkX (W 4 <| W 2 <| W 2 <| ws0) = true := by kernel_rfl
theorem v423 : lawOkX (W 4 <| W 2 <| W 3 <| ws0) = true := by kernel_rfl
theorem v424 : lawOkX (W 4 <| W 2 <| W 4 <| ws0) = true := by kernel_rfl
theorem v425 : lawOkX (W 4 <| W 2 <| W 5 <| ws0) = true := by kernel_rfl
theorem v426 : lawOkX (W 4 <| W 2 <| W 6 <| ws0) = true := by kernel_rfl
theorem v430 : lawOkX (W 4 <| W 3 <| W 0 <| ws0) = true := by kernel_rfl
theorem v431 : lawOkX (W 4 <| W 3 <| W 1 <| ws0) = true := by kernel_rfl
theorem v432 : lawOkX (W 4 <| W 3 <| W 2 <| ws0) = true := by kernel_rfl
theorem v433 : lawOkX (W 4 <| W 3 <| W 3 <| ws0) = true := by kernel_rfl
theorem v434 : lawOkX (W 4 <| W 3 <| W 4 <| ws0) = true := by kernel_rfl
theorem v435 : lawOkX (W 4 <| W 3 <| W 5 <| ws0) = true := by kernel_rfl
theorem v436 : lawOkX (W 4 <| W 3 <| W 6 <| ws0) = true := by kernel_rfl
theorem v440 : lawOkX (W 4 <| W 4 <| W 0 <| ws0) = true := by kernel_rfl
theorem v441 : lawOkX (W 4 <| W 4 <| W 1 <| ws0) = true := by kernel_rfl
theorem v442 : lawOkX (W 4 <| W 4 <| W 2 <| ws0) = true := by kernel_rfl
theorem v443 : lawOkX (W 4 <| W 4 <| W 3 <| ws0) = true := by kernel_rfl
theorem v444 : lawOkX (W 4 <| W 4 <| W 4 <| ws0) = true := by kernel_rfl
theorem v445 : lawOkX (W 4 <| W 4 <| W 5 <| ws0) = true := by kernel_rfl
theorem v446 : lawOkX (W 4 <| W 4 <| W 6 <| ws0) = true := by kernel_rfl
theorem v450 : lawOkX (W 4 <| W 5 <| W 0 <| ws0) = true := by kernel_rfl
theorem v451 : lawOkX (W 4 <| W 5 <| W 1 <| ws0) = true := by kernel_rfl
theorem v452 : lawOkX (W 4 <| W 5 <| W 2 <| ws0) = true := by kernel_rfl
theorem v453 : lawOkX (W 4 <| W 5 <| W 3 <| ws0) = true := by kernel_rfl
theorem v454 : lawOkX (W 4 <| W 5 <| W 4 <| ws0) = true := by kernel_rfl
theorem v455 : lawOkX (W 4 <| W 5 <| W 5 <| ws0) = true := by kernel_rfl
theorem v456 : lawOkX (W 4 <| W 5 <| W 6 <| ws0) = true := by kernel_rfl
theorem v460 : lawOkX (W 4 <| W 6 <| W 0 <| ws0) = true := by kernel_rfl
theorem v461 : lawOkX (W 4 <| W 6 <| W 1 <| ws0) = true := by kernel_rfl
theorem v462 : lawOkX (W 4 <| W 6 <| W 2 <| ws0) = true := by kernel_rfl
theorem v463 : lawOkX (W 4 <| W 6 <| W 3 <| ws0) = true := by kernel_rfl
theorem v464 : lawOkX (W 4 <| W 6 <| W 4 <| ws0) = true := by kernel_rfl
theorem v465 : lawOkX (W 4 <| W 6 <| W 5 <| ws0) = true := by kernel_rfl
theorem v466 : lawOkX (W 4 <| W 6 <| W 6 <| ws0) = true := by kernel_rfl
theorem v500 : lawOkX (W 5 <| W 0 <| W 0 <| ws0) = true := by kernel_rfl
theorem v501 : lawOkX (W 5 <| W 0 <| W 1 <| ws0) = true := by kernel_rfl
theorem v502 : lawOkX (W 5 <| W 0 <| W 2 <| ws0) = true := by kernel_rfl
theorem v503 : lawOkX (W 5 <| W 0 <| W 3 <| ws0) = true := by kernel_rfl
theorem v504 : lawOkX (W 5 <| W 0 <| W 4 <| ws0) = true := by kernel_rfl
theorem v505 : lawOkX (W 5 <| W 0 <| W 5 <| ws0) = true := by kernel_rfl
theorem v506 : lawOkX (W 5 <| W 0 <| W 6 <| ws0) = true := by kernel_rfl
theorem v510 : lawOkX (W 5 <| W 1 <| W 0 <| ws0) = true := by kernel_rfl
theorem v511 : lawOkX (W 5 <| W 1 <| W 1 <| ws0) = true := by kernel_rfl
theorem v512 : lawOkX (W 5 <| W 1 <| W 2 <| ws0) = true := by kernel_rfl
theorem v513 : lawOkX (W 5 <| W 1 <| W 3 <| ws0) = true := by kernel_rfl
theorem v514 : lawOkX (W 5 <| W 1 <| W 4 <| ws0) = true := by kernel_rfl
theorem v515 : lawOkX (W 5 <| W 1 <| W 5 <| ws0) = true := by kernel_rfl
theorem v516 : lawOkX (W 5 <| W 1 <| W 6 <| ws0) = true := by kernel_rfl
theorem v520 : lawOkX (W 5 <| W 2 <| W 0 <| ws0) = true := by kernel_rfl
theorem v521 : lawOkX (W 5 <| W 2 <| W 1 <| ws0) = true := by kernel_rfl
theorem v522 : lawOkX (W 5 <| W 2 <| W 2 <| ws0) = true := by kernel_rfl
theorem v523 : lawOkX (W 5 <| W 2 <| W 3 <| ws0) = true := by kernel_rfl
theorem v524 : lawOkX (W 5 <| W 2 <| W 4 <| ws0) = true := by kernel_rfl
theorem v525 : lawOkX (W 5 <| W 2 <| W 5 <| ws0) = true := by kernel_rfl
theorem v526 : lawOkX (W 5 <| W 2 <| W 6 <| ws0) = true := by kernel_rfl
theorem v530 : lawOkX (W 5 <| W 3 <| W 0 <| ws0) = true := by kernel_rfl
theorem v531 : lawOkX (W 5 <| W 3 <| W 1 <| ws0) = true := by kernel_rfl
theorem v532 : lawOkX (W 5 <| W 3 <| W 2 <| ws0) = true := by kernel_rfl
theorem v533 : lawOkX (W 5 <| W 3 <| W 3 <| ws0) = true := by kernel_rfl
theorem v534 : lawOkX (W 5 <| W 3 <| W 4 <| ws0) = true := by kernel_rfl
theorem v535 : lawOkX (W 5 <| W 3 <| W 5 <| ws0) = true := by kernel_rfl
theorem v536 : lawOkX (W 5 <| W 3 <| W 6 <| ws0) = true := by kernel_rfl
theorem v540 : lawOkX (W 5 <| W 4 <| W 0 <| ws0) = true := by kernel_rfl
theorem v541 : lawOkX (W 5 <| W 4 <| W 1 <| ws0) = true := by kernel_rfl
theorem v542 : lawOkX (W 5 <| W 4 <| W 2 <| ws0) = true := by kernel_rfl
theorem v543 : lawOkX (W 5 <| W 4 <| W 3 <| ws0) = true := by kernel_rfl
theorem v544 : lawOkX (W 5 <| W 4 <| W 4 <| ws0) = true := by kernel_rfl
theorem v545 : lawOkX (W 5 <| W 4 <| W 5 <| ws0) = true := by kernel_rfl
theorem v546 : lawOkX (W 5 <| W 4 <| W 6 <| ws0) = true := by kernel_rfl
theorem v550 : lawOkX (W 5 <| W 5 <| W 0 <| ws0) = true := by kernel_rfl
theorem v551 : lawOkX (W 5 <| W 5 <| W 1 <| ws0) = true := by kernel_rfl
theorem v552 : lawOkX (W 5 <| W 5 <| W 2 <| ws0) = true := by kernel_rfl
theorem v553 : lawOkX (W 5 <| W 5 <| W 3 <| ws0) = true := by kernel_rfl
theorem v554 : lawOkX (W 5 <| W 5 <| W 4 <| ws0) = true := by kernel_rfl
theorem v555 : lawOkX (W 5 <| W 5 <| W 5 <| ws0) = true := by kernel_rfl
theorem v556 : lawOkX (W 5 <| W 5 <| W 6 <| ws0) = true := by kernel_rfl
theorem v560 : lawOkX (W 5 <| W 6 <| W 0 <| ws0) = true := by kernel_rfl
theorem v561 : lawOkX (W 5 <| W 6 <| W 1 <| ws0) = true := by kernel_rfl
theorem v562 : lawOkX (W 5 <| W 6 <| W 2 <| ws0) = true := by kernel_rfl
theorem v563 : lawOkX (W 5 <| W 6 <| W 3 <| ws0) = true := by kernel_rfl
theorem v564 : lawOkX (W 5 <| W 6 <| W 4 <| ws0) = true := by kernel_rfl
theorem v565 : lawOkX (W 5 <| W 6 <| W 5 <| ws0) = true := by kernel_rfl
theorem v566 : lawOkX (W 5 <| W 6 <| W 6 <| ws0) = true := by kernel_rfl
theorem v600 : lawOkX (W 6 <| W 0 <| W 0 <| ws0) = true := by kernel_rfl
theorem v601 : lawOkX (W 6 <| W 0 <| W 1 <| ws0) = true := by kernel_rfl
theorem v602 : lawOkX (W 6 <| W 0 <| W 2 <| ws0) = true := by kernel_rfl
theorem v603 : lawOkX (W 6 <| W 0 <| W 3 <| ws0) = true := by kernel_rfl
theorem v604 : lawOkX (W 6 <| W 0 <| W 4 <| ws0) = true := by kernel_rfl
theorem v605 : lawOkX (W 6 <| W 0 <| W 5 <| ws0) = true := by kernel_rfl
theorem v606 : lawOkX (W 6 <| W 0 <| W 6 <| ws0) = true := by kernel_rfl
theorem v610 : lawOkX (W 6 <| W 1 <| W 0 <| ws0) = true := by kernel_rfl
theorem v611 : lawOkX (W 6 <| W 1 <| W 1 <| ws0) = true := by kernel_rfl
theorem v612 : lawOkX (W 6 <| W 1 <| W 2 <| ws0) = true := by kernel_rfl
theorem v613 : lawOkX (W 6 <| W 1 <| W 3 <| ws0) = true := by kernel_rfl
theorem v614 : lawOkX (W 6 <| W 1 <| W 4 <| ws0) = true := by kernel_rfl
theorem v615 : lawOkX (W 6 <| W 1 <| W 5 <| ws0) = true := by kernel_rfl
theorem v616 : lawOkX (W 6 <| W 1 <| W 6 <| ws0) = true := by kernel_rfl
theorem v620 : lawOkX (W 6 <| W 2 <| W 0 <| ws0) = true := by kernel_rfl
theorem v621 : lawOkX (W 6 <| W 2 <| W 1 <| ws0) = true := by kernel_rfl
theorem v622 : lawOkX (W 6 <| W 2 <| W 2 <| ws0) = true := by kernel_rfl
theorem v623 : lawOkX (W 6 <| W 2 <| W 3 <| ws0) = true := by kernel_rfl
theorem v624 : lawOkX (W 6 <| W 2 <| W 4 <| ws0) = true := by kernel_rfl
theorem v625 : lawOkX (W 6 <| W 2 <| W 5 <| ws0) = true := by kernel_rfl
theorem v626 : lawOkX (W 6 <| W 2 <| W 6 <| ws0) = true := by kernel_rfl
theorem v630 : lawOkX (W 6 <| W 3 <| W 0 <| ws0) = true := by kernel_rfl
theorem v631 : lawOkX (W 6 <| W 3 <| W 1 <| ws0) = true := by kernel_rfl
theorem v632 : lawOkX (W 6 <| W 3 <| W 2 <| ws0) = true := by kernel_rfl
theorem v633 : lawOkX (W 6 <| W 3 <| W 3 <| ws0) = true := by kernel_rfl
theorem v634 : lawOkX (W 6 <| W 3 <| W 4 <| ws0) = true := by kernel_rfl
theorem v635 : lawOkX (W 6 <| W 3 <| W 5 <| ws0) = true := by kernel_rfl
theorem v636 : lawOkX (W 6 <| W 3 <| W 6 <| ws0) = true := by kernel_rfl
theorem v640 : lawOkX (W 6 <| W 4 <| W 0 <| ws0) = true := by kernel_rfl
theorem v641 : lawOkX (W 6 <| W 4 <| W 1 <| ws0) = true := by kernel_rfl
theorem v642 : lawOkX (W 6 <| W 4 <| W 2 <| ws0) = true := by kernel_rfl
theorem v643 : lawOkX (W 6 <| W 4 <| W 3 <| ws0) = true := by kernel_rfl
theorem v644 : lawOkX (W 6 <| W 4 <| W 4 <| ws0) = true := by kernel_rfl
theorem v645 : lawOkX (W 6 <| W 4 <| W 5 <| ws0) = true := by kernel_rfl
theorem v646 : lawOkX (W 6 <| W 4 <| W 6 <| ws0) = true := by kernel_rfl
theorem v650 : lawOkX (W 6 <| W 5 <| W 0 <| ws0) = true := by kernel_rfl
theorem v651 : lawOkX (W 6 <| W 5 <| W 1 <| ws0) = true := by kernel_rfl
theorem v652 : lawOkX (W 6 <| W 5 <| W 2 <| ws0) = true := by kernel_rfl
theorem v653 : lawOkX (W 6 <| W 5 <| W 3 <| ws0) = true := by kernel_rfl
theorem v654 : lawOkX (W 6 <| W 5 <| W 4 <| ws0) = true := by kernel_rfl
theorem v655 : lawOkX (W 6 <| W 5 <| W 5 <| ws0) = true := by kernel_rfl
theorem v656 : lawOkX (W 6 <| W 5 <| W 6 <| ws0) = true := by kernel_rfl
theorem v660 : lawOkX (W 6 <| W 6 <| W 0 <| ws0) = true := by kernel_rfl
theorem v661 : lawOkX (W 6 <| W 6 <| W 1 <| ws0) = true := by kernel_rfl
theorem v662 : lawOkX (W 6 <| W 6 <| W 2 <| ws0) = true := by kernel_rfl
theorem v663 : lawOkX (W 6 <| W 6 <| W 3 <| ws0) = true := by kernel_rfl
theorem v664 : lawOkX (W 6 <| W 6 <| W 4 <| ws0) = true := by kernel_rfl
theorem v665 : lawOkX (W 6 <| W 6 <| W 5 <| ws0) = true := by kernel_rfl
theorem v666 : lawOkX (W 6 <| W 6 <| W 6 <| ws0) = true := by kernel_rfl
theorem ok1 : ∀ a, a < 7 → lawOkX (W a ws0) = true := below7 v0 v1 v2 v3 v4 v5 v6
theorem ok2_0 : ∀ b, b < 7 → lawOkX (W 0 <| W b ws0) = true := below7 v00 v01 v02 v03 v04 v05 v06
theorem ok2_1 : ∀ b, b < 7 → lawOkX (W 1 <| W b ws0) = true := below7 v10 v11 v12 v13 v14 v15 v16
theorem ok2_2 : ∀ b, b < 7 → lawOkX (W 2 <| W b ws0) = true := below7 v20 v21 v22 v23 v24 v25 v26
theorem ok2_3 : ∀ b, b < 7 → lawOkX (W 3 <| W b ws0) = true := below7 v30 v31 v32 v33 v34 v35 v36
theorem ok2_4 : ∀ b, b < 7 → lawOkX (W 4 <| W b ws0) = true := below7 v40 v41 v42 v43 v44 v45 v46
theorem ok2_5 : ∀ b, b < 7 → lawOkX (W 5 <| W b ws0) = true := below7 v50 v51 v52 v53 v54 v55 v56
theorem ok2_6 : ∀ b, b < 7 → lawOkX (W 6 <| W b ws0) = true := below7 v60 v61 v62 v63 v64 v65 v66
theorem ok2 : ∀ a, a < 7 → ∀ b, b < 7 → lawOkX (W a <| W b ws0) = true := below7 ok2_0 ok2_1 ok2_2 ok2_3 ok2_4 ok2_5 ok2_6
theorem ok3_0_0 : ∀ c, c < 7 → lawOkX (W 0 <| W 0 <| W c ws0) = true := below7 v000 v001 v002 v003 v004 v005 v006
theorem ok3_0_1 : ∀ c, c < 7 → lawOkX (W 0 <| W 1 <| W c ws0) = true := below7 v010 v011 v012 v013 v014 v015 v016
theorem ok3_0_2 : ∀ c, c < 7 → lawOkX (W 0 <| W 2 <| W c ws0) = true := below7 v020 v021 v022 v023 v024 v025 v026
theorem ok3_0_3 : ∀ c, c < 7 → lawOkX (W 0 <| W 3 <| W c ws0) = true := below7 v030 v031 v032 v033 v034 v035 v036
theorem ok3_0_4 : ∀ c, c < 7 → lawOkX (W 0 <| W 4 <| W c ws0) = true := below7 v040 v041 v042 v043 v044 v045 v046
theorem ok3_0_5 : ∀ c, c < 7 → lawOkX (W 0 <| W 5 <| W c ws0) = true := below7 v050 v051 v052 v053 v054 v055 v056
theorem ok3_0_6 : ∀ c, c < 7 → lawOkX (W 0 <| W 6 <| W c ws0) = true := below7 v060 v061 v062 v063 v064 v065 v066
theorem ok3_0 : ∀ b, b < 7 → ∀ c, c < 7 → lawOkX (W 0 <| W b <| W c ws0) = true := below7 ok3_0_0 ok3_0_1 ok3_0_2 ok3_0_3 ok3_0_4 ok3_0_5 ok3_0_6
theorem ok3_1_0 : ∀ c, c < 7 → lawOkX (W 1 <| W 0 <| W c ws0) = true := below7 v100 v101 v102 v103 v104 v105 v106
theorem ok3_1_1 : ∀ c, c < 7 → lawOkX (W 1 <| W 1 <| W c ws0) = true := below7 v110 v111 v112 v113 v114 v115 v116
theorem ok3_1_2 : ∀ c, c < 7 → lawOkX (W 1 <| W 2 <| W c ws0) = true := below7 v120 v121 v122 v123 v124 v125 v126
theorem ok3_1_3 : ∀ c, c < 7 → lawOkX (W 1 <| W 3 <| W c ws0) = true := below7 v130 v131 v132 v133 v134 v135 v136
theorem ok3_1_4 : ∀ c, c < 7 → lawOkX (W 1 <| W 4 <| W c ws0) = true := below7 v140 v141 v142 v143 v144 v145 v146
theorem ok3_1_5 : ∀ c, c < 7 → lawOkX (W 1 <| W 5 <| W c ws0) = true := below7 v150 v151 v152 v153 v154 v155 v156
theorem ok3_1_6 : ∀ c, c < 7 → lawOkX (W 1 <| W 6 <| W c ws0) = true := below7 v160 v161 v162 v163 v164 v165 v166
theorem ok3_1 : ∀ b, b < 7 → ∀ c, c < 7 → lawOkX (W 1 <| W b <| W c ws0) = true := below7 ok3_1_0 ok3_1_1 ok3_1_2 ok3_1_3 ok3_1_4 ok3_1_5 ok3_1_6
theorem ok3_2_0 : ∀ c, c < 7 → lawOkX (W 2 <| W 0 <| W c ws0) = true := below7 v200 v201 v202 v203 v204 v205 v206
theorem ok3_2_1 : ∀ c, c < 7 → lawOkX (W 2 <| W 1 <| W c ws0) = true := below7 v210 v211 v212 v213 v214 v215 v216
theorem ok3_2_2 : ∀ c, c < 7 → lawOkX (W 2 <| W 2 <| W c ws0) = true := below7 v220 v221 v222 v223 v224 v225 v226
theorem ok3_2_3 : ∀ c, c < 7 → lawOkX (W 2 <| W 3 <| W c ws0) = true := below7 v230 v231 v232 v233 v234 v235 v236
theorem ok3_2_4 : ∀ c, c < 7 → lawOkX (W 2 <| W 4 <| W c ws0) = true := below7 v240 v241 v242 v243 v244 v245 v246
theorem ok3_2_5 : ∀ c, c < 7 → lawOkX (W 2 <| W 5 <| W c ws0) = true := below7 v250 v251 v252 v253 v254 v255 v256
theorem ok3_2_6 : ∀ c, c < 7 → lawOkX (W 2 <| W 6 <| W c ws0) = true := below7 v260 v261 v262 v263 v264 v265 v266
theorem ok3_2 : ∀ b, b < 7 → ∀ c, c < 7 → lawOkX (W 2 <| W b <| W c ws0) = true := below7 ok3_2_0 ok3_2_1 ok3_2_2 ok3_2_3 ok3_2_4 ok3_2_5 ok3_2_6
theorem ok3_3_0 : ∀ c, c < 7 → lawOkX (W 3 <| W 0 <| W c ws0) = true := below7 v300 v301 v302 v303 v304 v305 v306
theorem ok3_3_1 : ∀ c, c < 7 → lawOkX (W 3 <| W 1 <| W c ws0) = true := below7 v310 v311 v312 v313 v314 v315 v316
theorem ok3_3_2 : ∀ c, c < 7 → lawOkX (W 3 <| W 2 <| W c ws0) = true := below7 v320 v321 v322 v323 v324 v325 v326
theorem ok3_3_3 : ∀ c, c < 7 → lawOkX (W 3 <| W 3 <| W c ws0) = true := below7 v330 v331 v332 v333 v334 v335 v336
theorem ok3_3_4 : ∀ c, c < 7 → lawOkX (W 3 <| W 4 <| W c ws0) = true := below7 v340 v341 v342 v343 v344 v345 v346
theorem ok3_3_5 : ∀ c, c < 7 → lawOkX (W 3 <| W 5 <| W c ws0) = true := below7 v350 v351 v352 v353 v354 v355 v356
theorem ok3_3_6 : ∀ c, c < 7 → lawOkX (W 3 <| W 6 <| W c ws0) = true := below7 v360 v361 v362 v363 v364 v365 v366
theorem ok3_3 : ∀ b, b < 7 → ∀ c, c < 7 → lawOkX (W 3 <| W b <| W c ws0) = true := below7 ok3_3_0 ok3_3_1 ok3_3_2 ok3_3_3 ok3_3_4 ok3_3_5 ok3_3_6
theorem ok3_4_0 : ∀ c, c < 7 → lawOkX (W 4 <| W 0 <| W c ws0) = true := below7 v400 v401 v402 v403 v404 v405 v406
theorem ok3_4_1 : ∀ c, c < 7 → lawOkX (W 4 <| W 1 <| W c ws0) = true := below7 v410 v411 v412 v413 v414 v415 v416
theorem ok3_4_2 : ∀ c, c < 7 → lawOkX (W 4 <| W 2 <| W c ws0) = true := below7 v420 v421 v422 v423 v424 v425 v426
theorem ok3_4_3 : ∀ c, c < 7 → lawOkX (W 4 <| W 3 <| W c ws0) = true := below7 v430 v431 v432 v433 v434 v435 v436
theorem ok3_4_4 : ∀ c, c < 7 → lawOkX (W 4 <| W 4 <| W c ws0) = true := below7 v440 v441 v442 v443 v444 v445 v446
theorem ok3_4_5 : ∀ c, c < 7 → lawOkX (W 4 <| W 5 <| W c ws0) = true := below7 v450 v451 v452 v453 v454 v455 v456
theorem ok3_4_6 : ∀ c, c < 7 → lawOkX (W 4 <| W 6 <| W c ws0) = true := below7 v460 v461 v462 v463 v464 v465 v466
theorem ok3_4 : ∀ b, b < 7 → ∀ c, c < 7 → lawOkX (W 4 <| W b <| W c ws0) = true := below7 ok3_4_0 ok3_4_1 ok3_4_2 ok3_4_3 ok3_4_4 ok3_4_5 ok3_4_6
theorem ok3_5_0 : ∀ c, c < 7 → lawOkX (W 5 <| W 0 <| W c ws0) = true := below7 v500 v501 v502 v503 v504 v505 v506
theorem ok3_5_1 : ∀ c, c < 7 → lawOkX (W 5 <| W 1 <| W c ws0) = true := below7 v510 v511 v512 v513 v514 v515 v516
theorem ok3_5_2 : ∀ c, c < 7 → lawOkX (W 5 <| W 2 <| W c ws0) = true := below7 v520 v521 v522 v523 v524 v525 v526
theorem ok3_5_3 : ∀ c, c < 7 → lawOkX (W 5 <| W 3 <| W c ws0) = true := below7 v530 v531 v532 v533 v534 v535 v536
theorem ok3_5_4 : ∀ c, c < 7 → lawOkX (W 5 <| W 4 <| W c ws0) = true := below7 v540 v541 v542 v543 v544 v545 v546
theorem ok3_5_5 : ∀ c, c < 7 → lawOkX (W 5 <| W 5 <| W c ws0) = true := below7 v550 v551 v552 v553 v554 v555 v556
theorem ok3_5_6 : ∀ c, c < 7 → lawOkX (W 5 <| W 6 <| W c ws0) = true := below7 v560 v561 v562 v563 v564 v565 v566
theorem ok3_5 : ∀ b, b < 7 → ∀ c, c < 7 → lawOkX (W 5 <| W b <| W c ws0) = true := below7 ok3_5_0 ok3_5_1 ok3_5_2 ok3_5_3 ok3_5_4 ok3_5_5 ok3_5_6
theorem ok3_6_0 : ∀ c, c < 7 → lawOkX (W 6 <| W 0 <| W c ws0) = true := below7 v600 v601 v602 v603 v604 v605 v606
theorem ok3_6_1 : ∀ c, c < 7 → lawOkX (W 6 <| W 1 <| W c ws0) = true := below7 v610 v611 v612 v613 v614 v615 v616
theorem ok3_6_2 : ∀ c, c < 7 → lawOkX (W 6 <| W 2 <| W c ws0) = true := below7 v620 v621 v622 v623 v624 v625 v626
theorem ok3_6_3 : ∀ c, c < 7 → lawOkX (W 6 <| W 3 <| W c ws0) = true := below7 v630 v631 v632 v633 v634 v635 v636
theorem ok3_6_4 : ∀ c, c < 7 → lawOkX (W 6 <| W 4 <| W c ws0) = true := below7 v640 v641 v642 v643 v644 v645 v646
theorem ok3_6_5 : ∀ c, c < 7 → lawOkX (W 6 <| W 5 <| W c ws0) = true := below7 v650 v651 v652 v653 v654 v655 v656
theorem ok3_6_6 : ∀ c, c < 7 → lawOkX (W 6 <| W 6 <| W c ws0) = true := below7 v660 v661 v662 v663 v664 v665 v666
theorem ok3_6 : ∀ b, b < 7 → ∀ c, c < 7 → lawOkX (W 6 <| W b <| W c ws0) = true := below7 ok3_6_0 ok3_6_1 ok3_6_2 ok3_6_3 ok3_6_4 ok3_6_5 ok3_6_6
theorem ok3 : ∀ a, a < 7 → ∀ b, b < 7 → ∀ c, c < 7 → lawOkX (W a <| W b <| W c ws0) = true := below7 ok3_0 ok3_1 ok3_2 ok3_3 ok3_4 ok3_5 ok3_6
theorem all_ok (xs : List Int) : lawOk ((List.map (fun (k' : Int) => k'.fmod 7) (List.take 3 xs) ++ [5, 6, 5, 5]).map AV.int) = true := by
  match xs with
  | [] => exact lawOk_of vz
  | [a] =>
    obtain ⟨i, hi, ei⟩ := fmod7 a
    show lawOk [.int (a.fmod 7), .int 5, .int 6, .int 5, .int 5] = true
    rw [ei]; exact lawOk_of (ok1 i hi)
  | [a, b] =>
    obtain ⟨i, hi, ei⟩ := fmod7 a
    obtain ⟨j, hj, ej⟩ := fmod7 b
    show lawOk [.int (a.fmod 7), .int (b.fmod 7), .int 5, .int 6, .int 5, .int 5] = true
    rw [ei, ej]; exact lawOk_of (ok2 i hi j hj)
  | a :: b :: c :: r =>
    obtain ⟨i, hi, ei⟩ := fmod7 a
    obtain ⟨j, hj, ej⟩ := fmod7 b
    obtain ⟨k, hk, ek⟩ := fmod7 c
    show lawOk [.int (a.fmod 7), .int (b.fmod 7), .int (c.fmod 7), .int 5, .int 6, .int 5, .int 5] = true
    rw [ei, ej, ek]; exact lawOk_of (ok3 i hi j hj k hk)
end Mine
end
section
open PySem PySem.W PyProof.Rows
set_option maxRecDepth 100000
set_option maxHeartbeats 8000000
namespace Mine
-- THE HEAD: the top's run in two kernel checks (one a way of the world's row), without the head's own twins (they weigh 30 MB)
abbrev topP : Program := PySem.Challenge.pw_us0013_01
abbrev topR : OpenRow := PySem.Challenge.rw_us0013_01.row
def topV : Program := view topP [0, 1, 2, 5, 6, 7, 9, 11, 12, 15, 16, 17, 18, 19, 20, 21, 22]
abbrev topLoose : List Str := [Str.ofString "_twin_re_1", Str.ofString "_twin_re_2", Str.ofString "bisect_left", Str.ofString "COMPILER_FLAG_NAMES", Str.ofString "_name_disallowed_re", Str.ofString "_value_disallowed_re"]
theorem two_sides {α β γ : Type} {o : Option α} {f : α → β} {g : α → γ} {b : β} {c : γ} (h1 : o.map f = some b) (h2 : o.map g = some c) : o.map (fun s => (f s, g s)) = some (b, c) := by
  cases o with
  | none => cases h1
  | some a => rw [Option.map_some] at h1 h2 ⊢; rw [Option.some.inj h1, Option.some.inj h2]
noncomputable def qOpen (p : Program) (w : World) (N : Nat) : Option Shared :=
  (Fast.tw10274390034422433532 Fast.tw14364793385576792824 (opening p) w N (Fast.tw1435165496053646825 (opening p)).1 (Fast.tw1435165496053646825 (opening p)).2).bind (Fast.tw14289696077712309145 p)
-- the run over a tree of objects (the library's SharedT), all in one plain function
noncomputable def topRunT (p : Program) (w : World) (n₀ : Nat) (ann : Option Value) (n : Nat) : SharedT → Thread → Option SharedT :=
  @Nat.rec (fun _ => SharedT → Thread → Option SharedT) (fun _ _ => none)
    (fun _ ih s t => match through t with
      | true => some s
      | false => match stepOk n₀ ann t with
        | false => none
        | true => match Fast.tw10156331382660048174 (Fast.tw11892475500146522536 Fast.tw14364793385576792824) p w s t with
          | some (s', t') => ih s' t'
          | none => none) n
theorem topRunT_of {p : Program} {w : World} {n₀ : Nat} {ann : Option Value} (n : Nat) : ∀ {s r : SharedT} {t : Thread}, topRunT p w n₀ ann n s t = some r → topRun treeTable p w n₀ ann n s.abs t = some r.abs := by
  induction n with
  | zero => intro s r t h; cases h
  | succ n ih =>
    intro s r t h
    have h' : (match through t with
      | true => some s
      | false => match stepOk n₀ ann t with
        | false => none
        | true => match Fast.tw10156331382660048174 (Fast.tw11892475500146522536 Fast.tw14364793385576792824) p w s t with
          | some (s', t') => topRunT p w n₀ ann n s' t'
          | none => none) = some r := h
    rw [← Fast.te14364793385576792824, ← Fast.te10156331382660048174, ← Fast.te11892475500146522536] at h'
    unfold topRun
    cases ht : through t with
    | true => rw [ht] at h'; cases h'; rfl
    | false =>
      rw [ht] at h'
      cases hk : stepOk n₀ ann t with
      | false => rw [hk] at h'; cases h'
      | true =>
        rw [hk] at h'
        cases hs : stepT (denote treeTable) p w s t with
        | none => rw [hs] at h'; cases h'
        | some q =>
          obtain ⟨s', t'⟩ := q
          rw [hs] at h'
          dsimp only
          rw [stepT_spec hs]
          exact ih h'
noncomputable def buildT (l : List Obj) : BT → Nat → Option (BT × Nat) := @List.rec Obj (fun _ => BT → Nat → Option (BT × Nat)) (fun t n => some (t, n)) (fun o _ ih t n => match ((t.ins n o).get n).isSome with
  | true => ih (t.ins n o) (Nat.add n 1)
  | false => none) l
theorem buildT_of {life : Life} (l : List Obj) : ∀ {t t' : BT} {n n' : Nat}, buildT l t n = some (t', n') → (absHeap t' n' life).objs = (absHeap t n life).objs ++ l.toArray := by
  induction l with
  | nil => intro t t' n n' h; cases h; simp
  | cons o l ih =>
    intro t t' n n' h
    have h' : (match ((t.ins n o).get n).isSome with
      | true => buildT l (t.ins n o) (Nat.add n 1)
      | false => none) = some (t', n') := h
    cases hg : ((t.ins n o).get n).isSome with
    | false => rw [hg] at h'; cases h'
    | true =>
      rw [hg] at h'
      rw [ih h', show absHeap (t.ins n o) (Nat.add n 1) life = (absHeap t n life).push o from absHeap_ins hg]
      show (absHeap t n life).objs.push o ++ l.toArray = _
      apply Array.toList_inj.mp
      simp
noncomputable def qTop (p : Program) (w : World) (N : Nat) (s₀ : Shared) : Option Shared :=
  match s₀.heap.isNs mainGlobals && s₀.gens.size == 0 with
  | true => match buildT s₀.heap.objs.toList .nil 0 with
    | some (t, n) => (topRunT p w s₀.heap.objs.size (s₀.heap.nsMap mainGlobals "__annotations__") N ⟨t, n, s₀.heap.life, s₀.gens, s₀.drawn, s₀.toks, s₀.os⟩ (topStub p)).bind fun r =>
        match staticsOk (importedModules p.main.body) s₀.heap r.abs.heap && namesBound p r.abs.heap && gensDone r.abs && laidKept s₀.heap r.abs.heap with
        | true => some r.abs
        | false => none
    | none => none
  | false => none
theorem qTop_of {p : Program} {w : World} {N : Nat} {s₀ s₁ : Shared} (h : qTop p w N s₀ = some s₁) : topFrom treeTable p w N s₀ = some s₁ := by
  unfold qTop at h
  unfold topFrom
  cases hg : (s₀.heap.isNs mainGlobals && s₀.gens.size == 0) with
  | false => rw [hg] at h; cases h
  | true =>
    rw [hg] at h
    cases hb : buildT s₀.heap.objs.toList .nil 0 with
    | none => rw [hb] at h; cases h
    | some q =>
      obtain ⟨t, n⟩ := q
      rw [hb] at h
      obtain ⟨r, h1, h2⟩ := Option.bind_eq_some_iff.mp h
      have e := buildT_of (life := s₀.heap.life) _ hb
      have e2 : (⟨t, n, s₀.heap.life, s₀.gens, s₀.drawn, s₀.toks, s₀.os⟩ : SharedT).abs = s₀ := by
        obtain ⟨⟨objs, life⟩, gens, drawn, toks, os⟩ := s₀
        show Shared.mk (absHeap t n life) gens drawn toks os = _
        have e3 : absHeap t n life = ⟨objs, life⟩ := by
          show Heap.mk (absHeap t n life).objs life = _
          rw [e]
          congr 1
          apply Array.toList_inj.mp
          simp [absHeap, BT.list]
        rw [e3]
      have h3 := topRunT_of _ h1
      rw [e2] at h3
      dsimp only
      rw [h3]
      exact h2
theorem qOpen_eq : @fencedOpening treeTable = @qOpen := by
  funext p w N
  unfold fencedOpening qOpen
  rw [← Fast.te14364793385576792824, ← Fast.te10274390034422433532, ← Fast.te14289696077712309145, ← Fast.te1435165496053646825]
theorem side_of {p q : Program} {loose : List Str} {Xt : Shared → Bool} {g0 : Bool} {α : Type} {Yf : Shared → α} {w w' : World} {N : Nat} {mods : List Str} {y}
    (h : (qOpen p w N).map (fun s₀ => (qTop p w' N s₀).map fun s => (Fast.tw4187177175401517315 q loose mods Xt g0 s, Yf s)) = some (some y)) :
    (fencedOpening treeTable p w N).map (fun s₀ => (topFrom treeTable p w' N s₀).map fun s => (openSeen q loose mods Xt g0 s, Yf s)) = some (some y) := by
  rw [qOpen_eq, Fast.te4187177175401517315]
  obtain ⟨s₀, h1, h2⟩ := Option.map_eq_some_iff.mp h
  obtain ⟨s₁, h3, h4⟩ := Option.map_eq_some_iff.mp h2
  rw [h1, Option.map_some, qTop_of h3, Option.map_some, h4]
theorem use_hook {r : OpenRow} (H : Hook) (hw : r.toRowW.promised) (hc : H.α = H.α → r.toRowW.promised → r.wellSaid = true → r.Holds) (k1 : r.wellSaid = true) : r.Holds := hc rfl hw k1
local macro_rules | `(tactic| o_head $H) => `(tactic| refine use_hook $H ?hw ?hc (by assumption))
-- only the kept part K is made here: topK.heap_39
open_top topK for PySem.Challenge.rw_us0013_01
abbrev topAs : List Addr := [2, 3, 32, 34, 35, 37, 38, 42, 43, 47, 48, 49, 51, 52, 54, 55, 56, 57, 58, 60, 61, 63, 64, 65, 66, 68, 69, 71, 72, 76,
  77, 81, 82, 90, 91, 93, 94, 96, 97, 98, 100, 101, 103, 104, 105, 107, 108, 110, 111, 112, 114, 115, 117, 118, 119,
  122, 123, 124, 126, 127, 129, 130, 131, 133, 134, 136, 137, 138, 140, 141, 143, 144, 145, 146, 148, 149, 151, 152,
  153, 156, 157, 158, 161, 162, 163, 165, 166, 168, 169, 170, 172, 173, 175, 176, 177, 180, 181, 182, 184, 185, 187,
  188, 189, 191, 192, 194, 195, 196, 198, 199, 201, 202, 203, 204, 205, 206, 207, 210, 212, 213, 215, 216, 217, 219,
  220, 222, 223, 224, 227, 228, 229, 231, 232, 234, 235, 236, 239, 240, 241, 244, 245]
theorem topAs_eq (P : Params) : topAs = (topK.heap_39 P).map (·.1) := by kernel_rfl
noncomputable abbrev topH : Hook := kHook topK.heap_39 topAs topAs_eq
noncomputable abbrev topX : Shared → Bool := fun s => xlAt topV [] s && recOk (RowW.records topR.toRowW) s
theorem topSideA (w : World) : (qOpen topP w 3174).map (fun s₀ => (qTop topP (w.withFollow "special-get-raises" false) 3174 s₀).map fun s => (Fast.tw4187177175401517315 topV topLoose (importedModules topP.main.body) topX true s, topH.obs s)) = some (some (openGood topV topLoose, topH.val (w.withFollow "special-get-raises" false))) := by kernel_rfl
theorem topSideB (w : World) : (qOpen topP w 3174).map (fun s₀ => (qTop topP (w.withFollow "special-get-raises" true) 3174 s₀).map fun s => (Fast.tw4187177175401517315 topV topLoose (importedModules topP.main.body) topX true s, topH.obs s)) = some (some (openGood topV topLoose, topH.val (w.withFollow "special-get-raises" true))) := by kernel_rfl
theorem topLeft : LeftO topR.prog topV topLoose topX (Hook.obs topH) (Hook.val topH) 3174 := LeftO.of_split "special-get-raises" fun w => two_sides (side_of (topSideA w)) (side_of (topSideB w))
theorem hd {d kwd} (hdef : defOf topV topR.name = some (d, kwd)) (hp : topR.prog.theDef topR.name = some (d.params, d.body, d.scope)) (hkw : kwWritten? d.params.kwonlyargs d.params.kw_defaults = some kwd)
    (walk : WalkO topV topLoose (XL topV []) topH.says topR.toRowW d kwd fun f vs => PySem.call f vs) : PySem.Challenge.rw_us0013_01.Holds :=
  topK fun _ hw k1 => holds_open (q := topV) (loose := topLoose) (Xt := topX) (XP := XL topV []) (Yf := Hook.obs topH) (Ya := Hook.val topH) (YP := Hook.says topH) (N := 3174)
    topLeft (Hook.of topH) (Hook.keeps topH) (fun s e => xl_of s (Bool.and_eq_true_iff.mp e).1) XL.keeps hdef hp hkw (fun s e => recFacts_of (Bool.and_eq_true_iff.mp e).2) (by rfl) k1 (by decide +kernel) ⟨rfl, rfl, rfl, rfl, rfl, by decide +kernel⟩ hw walk
end Mine
end
section
open PySem PySem.W PyProof.Rows PySem.Calls PySem.Spec
set_option maxRecDepth 100000
namespace Mine
theorem len1 {α : Type} {vs : List α} (h : vs.length = 1) : ∃ v, vs = [v] := List.length_eq_one_iff.mp h
theorem len2 {α : Type} {vs : List α} (h : vs.length = 2) : ∃ v u, vs = [v, u] := by
  match vs, h with
  | [v, u], _ => exact ⟨v, u, rfl⟩
theorem len3 {α : Type} {vs : List α} (h : vs.length = 3) : ∃ v u x, vs = [v, u, x] := by
  match vs, h with
  | [v, u, x], _ => exact ⟨v, u, x, rfl⟩

section
variable (p : Params) (w : World) (mg mb : Str → Option Value)
theorem U_told (G : Glo mg mb) : SFunC (model pw w) (Base mg mb (topK.heap_39 p)) 6 103 216 [] Ftold :=
  fun_ofC (n := 1) (nl := 7) (dflts := []) (ps := [nm "wishes"]) (names := nmTold) (scope := scopeOf (stN 17)) (body := bodyOf (stN 17)) (told_d.2 pw w mg mb _ G) rfl rfl rfl rfl (fun as h => by simp [h]) (by decide)
    (fun κ s vs hB keep hl => by obtain ⟨v, rfl⟩ := len1 hl; exact ⟨[], kp_binds (fun b o q => keep _ _ (hB.k b o q)) (fun _ => rfl), fun σ => .nil⟩)
    (by decide) (by decide) rfl rfl rfl
theorem fnK : ∀ a ∈ [55, 64, 72, 104, 152, 157, 195, 216, 223, 228, 235, 240], FnAt (topK.heap_39 p) a := by
  intro a ha
  simp only [List.mem_cons, List.not_mem_nil, or_false] at ha
  rcases ha with rfl | rfl | rfl | rfl | rfl | rfl | rfl | rfl | rfl | rfl | rfl | rfl <;> exact ⟨_, _, rfl, rfl⟩
theorem U_driven (G : Glo mg mb) : SFunC (model pw w) (Base mg mb (topK.heap_39 p)) 6 103 223 [] Fdriven :=
  fun_ofC (n := 2) (nl := 3) (dflts := []) (ps := [nm "wishes", nm "drives"]) (names := nmDriven) (scope := scopeOf (stN 18)) (body := bodyOf (stN 18)) (driven_d.2 pw w mg mb _ G) rfl rfl rfl rfl (fun as h => by simp [h]) (by decide)
    (fun κ s vs hB keep hl => by obtain ⟨v, u, rfl⟩ := len2 hl; exact ⟨[], kp_binds (fun b o q => keep _ _ (hB.k b o q)) (fun _ => rfl), fun σ => .nil⟩)
    (by decide) (by decide) rfl rfl rfl
theorem U_bis (G : Glo mg mb) : SFunC (model pw w) (Base mg mb (topK.heap_39 p)) 6 103 64 [] Fbis :=
  fun_ofC (n := 2) (nl := 1) (dflts := [.int 0, .none, .none]) (ps := [nm "a", nm "x", nm "lo", nm "hi", nm "key"]) (names := nmBis) (scope := scopeOf (stN 8)) (body := bodyOf (stN 8)) (bis_d.2 pw w mg mb _ G) rfl rfl rfl rfl (fun as h => by simp [h]) (by decide)
    (fun κ s vs hB keep hl => by obtain ⟨v, u, rfl⟩ := len2 hl; exact ⟨[.int 0 360, .none, .none], kp_binds (fun b o q => keep _ _ (hB.k b o q)) (fun _ => rfl), fun σ => .cons ⟨_, rfl⟩ (.cons rfl (.cons rfl .nil))⟩)
    (by decide) (by decide) rfl rfl rfl
theorem U_pretty (G : Glo mg mb) (FA : FlagAt (topK.heap_39 p) w) : SFunC (model pw w) (Base mg mb (topK.heap_39 p)) 6 103 72 [] Fpretty :=
  fun_ofC (n := 1) (nl := 3) (dflts := []) (ps := [nm "flags"]) (names := nmPretty) (scope := scopeOf (stN 11)) (body := bodyOf (stN 11)) (pretty_d.2 w mg mb _ G FA) rfl rfl rfl rfl (fun as h => by simp [h]) (by decide)
    (fun κ s vs hB keep hl => by obtain ⟨v, rfl⟩ := len1 hl; exact ⟨[], kp_binds (fun b o q => keep _ _ (hB.k b o q)) (fun _ => rfl), fun σ => .nil⟩)
    (by decide) (by decide) rfl rfl rfl
theorem U_quote (G : Glo mg mb) (T : TwinAt (topK.heap_39 p)) : SFunC (model pw w) (Base mg mb (topK.heap_39 p)) 6 103 55 [] Fquote :=
  fun_ofC (n := 1) (nl := 0) (dflts := []) (ps := [nm "data"]) (names := nmQuote) (scope := scopeOf (stN 6)) (body := bodyOf (stN 6)) (quote_d.2 pw w mg mb _ G T) rfl rfl rfl rfl (fun as h => by simp [h]) (by decide)
    (fun κ s vs hB keep hl => by obtain ⟨v, rfl⟩ := len1 hl; exact ⟨[], kp_binds (fun b o q => keep _ _ (hB.k b o q)) (fun _ => rfl), fun σ => .nil⟩)
    (by decide) (by decide) rfl rfl rfl
theorem U_halves (G : Glo mg mb) : SFunC (model pw w) (Base mg mb (topK.heap_39 p)) 11 203 235 [] Fhalves :=
  fun_ofC (n := 1) (nl := 5) (dflts := []) (ps := [nm "wishes"]) (names := nmHalves) (scope := scopeOf (stN 20)) (body := bodyOf (stN 20)) ((halves_d Fbis Fdriven).2 pw w mg mb _ G (fnK p 64 (by decide)) (fnK p 223 (by decide)) (U_bis p w mg mb G).fun (U_driven p w mg mb G).fun) rfl rfl rfl rfl (fun as h => by simp [h]) (by decide)
    (fun κ s vs hB keep hl => by obtain ⟨v, rfl⟩ := len1 hl; exact ⟨[], kp_binds (fun b o q => keep _ _ (hB.k b o q)) (fun _ => rfl), fun σ => .nil⟩)
    (by decide) (by decide) rfl rfl rfl
theorem U_once (G : Glo mg mb) (T : TwinAt (topK.heap_39 p)) : SFunC (model pw w) (Base mg mb (topK.heap_39 p)) 11 203 240 [] Fonce :=
  fun_ofC (n := 1) (nl := 6) (dflts := []) (ps := [nm "wishes"]) (names := nmOnce) (scope := scopeOf (stN 21)) (body := bodyOf (stN 21)) ((once_d Fquote Fdriven).2 pw w mg mb _ G (fnK p 55 (by decide)) (fnK p 223 (by decide)) (U_quote p w mg mb G T).fun (U_driven p w mg mb G).fun) rfl rfl rfl rfl (fun as h => by simp [h]) (by decide)
    (fun κ s vs hB keep hl => by obtain ⟨v, rfl⟩ := len1 hl; exact ⟨[], kp_binds (fun b o q => keep _ _ (hB.k b o q)) (fun _ => rfl), fun σ => .nil⟩)
    (by decide) (by decide) rfl rfl rfl
theorem U_conv_true (G : Glo mg mb) (P : RePats (topK.heap_39 p)) : SFunC (model pw w) (Base mg mb (topK.heap_39 p)) 6 103 104 [(nm "name", .bool true)] (Fconv true) :=
  fun_ofC (n := 2) (nl := 0) (dflts := [.bool true]) (ps := nmConv) (names := nmConv) (scope := scopeOf (clsSt 1)) (body := bodyOf (clsSt 1)) (conv_d.2 pw w mg mb _ G P) rfl rfl rfl rfl (fun as h => by simp [h]) (by decide)
    (fun κ s vs hB keep hl => by obtain ⟨v, u, rfl⟩ := len2 hl; exact ⟨[.bool true], kp_binds (fun b o q => keep _ _ (hB.k b o q)) (fun _ => rfl), fun σ => .cons rfl .nil⟩)
    (by decide) (by decide) rfl rfl rfl
theorem U_conv_false (G : Glo mg mb) (P : RePats (topK.heap_39 p)) : SFunC (model pw w) (Base mg mb (topK.heap_39 p)) 6 103 104 [(nm "name", .bool false)] (Fconv false) :=
  fun_ofC (n := 2) (nl := 0) (dflts := [.bool false]) (ps := nmConv) (names := nmConv) (scope := scopeOf (clsSt 1)) (body := bodyOf (clsSt 1)) (conv_d.2 pw w mg mb _ G P) rfl rfl rfl rfl (fun as h => by simp [h]) (by decide)
    (fun κ s vs hB keep hl => by obtain ⟨v, u, rfl⟩ := len2 hl; exact ⟨[.bool false], kp_binds (fun b o q => keep _ _ (hB.k b o q)) (fun _ => rfl), fun σ => .cons rfl .nil⟩)
    (by decide) (by decide) rfl rfl rfl
theorem U_init (G : Glo mg mb) (C : Cls (topK.heap_39 p)) : SFunC (model pw w) (Base mg mb (topK.heap_39 p)) 6 103 97 [] Finit :=
  fun_ofC (n := 1) (nl := 2) (dflts := [.none]) (ps := [nm "self", nm "headers"]) (names := nmInit) (scope := scopeOf (clsSt 0)) (body := bodyOf (clsSt 0)) (init_d.2 pw w mg mb _ G C) rfl rfl rfl rfl (fun as h => by simp [h]) (by decide)
    (fun κ s vs hB keep hl => by obtain ⟨v, rfl⟩ := len1 hl; exact ⟨[.none], kp_binds (fun b o q => keep _ _ (hB.k b o q)) (fun _ => rfl), fun σ => .cons rfl .nil⟩)
    (by decide) (by decide) rfl rfl rfl
theorem U_get (G : Glo mg mb) (C : Cls (topK.heap_39 p)) (P : RePats (topK.heap_39 p)) : SFunC (model pw w) (Base mg mb (topK.heap_39 p)) 11 203 152 [] Fget :=
  fun_ofC (n := 2) (nl := 2) (dflts := [.none]) (ps := [nm "self", nm "name", nm "default"]) (names := nmGet) (scope := scopeOf (clsSt 8)) (body := bodyOf (clsSt 8)) ((get_d (Fconv true)).2 pw w mg mb _ G C (fnK p 104 (by decide)) (U_conv_true p w mg mb G P).fun) rfl rfl rfl rfl (fun as h => by simp [h]) (by decide)
    (fun κ s vs hB keep hl => by obtain ⟨v, u, rfl⟩ := len2 hl; exact ⟨[.none], kp_binds (fun b o q => keep _ _ (hB.k b o q)) (fun _ => rfl), fun σ => .cons rfl .nil⟩)
    (by decide) (by decide) rfl rfl rfl
theorem U_keys (G : Glo mg mb) (C : Cls (topK.heap_39 p)) : SFunC (model pw w) (Base mg mb (topK.heap_39 p)) 6 103 157 [] Fkeys :=
  fun_ofC (n := 1) (nl := 0) (dflts := []) (ps := [nm "self"]) (names := nmKeys) (scope := scopeOf (clsSt 9)) (body := bodyOf (clsSt 9)) (keys_d.2 pw w mg mb _ G C) rfl rfl rfl rfl (fun as h => by simp [h]) (by decide)
    (fun κ s vs hB keep hl => by obtain ⟨v, rfl⟩ := len1 hl; exact ⟨[], kp_binds (fun b o q => keep _ _ (hB.k b o q)) (fun _ => rfl), fun σ => .nil⟩)
    (by decide) (by decide) rfl rfl rfl
theorem U_setd (G : Glo mg mb) (C : Cls (topK.heap_39 p)) (P : RePats (topK.heap_39 p)) : SFunC (model pw w) (Base mg mb (topK.heap_39 p)) 16 303 195 [] Fsetd :=
  fun_ofC (n := 3) (nl := 1) (dflts := []) (ps := [nm "self", nm "name", nm "value"]) (names := nmSetd) (scope := scopeOf (clsSt 15)) (body := bodyOf (clsSt 15)) ((setd_d Fget (Fconv true) (Fconv false)).2 pw w mg mb _ G C (fnK p 104 (by decide)) (fnK p 152 (by decide)) (U_get p w mg mb G C P).fun (U_conv_true p w mg mb G P).fun (U_conv_false p w mg mb G P).fun) rfl rfl rfl rfl (fun as h => by simp [h]) (by decide)
    (fun κ s vs hB keep hl => by obtain ⟨v, u, x, rfl⟩ := len3 hl; exact ⟨[], kp_binds (fun b o q => keep _ _ (hB.k b o q)) (fun _ => rfl), fun σ => .nil⟩)
    (by decide) (by decide) rfl rfl rfl
theorem U_table (G : Glo mg mb) (C : Cls (topK.heap_39 p)) (P : RePats (topK.heap_39 p)) (FA : FlagAt (topK.heap_39 p) w) : SFunC (model pw w) (Base mg mb (topK.heap_39 p)) 21 403 228 [] Ftable :=
  fun_ofC (n := 2) (nl := 5) (dflts := []) (ps := [nm "wishes", nm "table"]) (names := nmTable) (scope := scopeOf (stN 19)) (body := bodyOf (stN 19)) ((table_d (pureF Fpretty) Fsetd Fdriven).2 pw w mg mb _ G C (fnK p 72 (by decide)) (fnK p 195 (by decide)) (fnK p 223 (by decide)) ((U_pretty p w mg mb G FA).fun.pure fun _ _ l b => b.le l) (U_setd p w mg mb G C P).fun (U_driven p w mg mb G).fun) rfl rfl rfl rfl (fun as h => by simp [h]) (by decide)
    (fun κ s vs hB keep hl => by obtain ⟨v, u, rfl⟩ := len2 hl; exact ⟨[], kp_binds (fun b o q => keep _ _ (hB.k b o q)) (fun _ => rfl), fun σ => .nil⟩)
    (by decide) (by decide) rfl rfl rfl
theorem K_cls : Cls (topK.heap_39 p) := ⟨by rfl, by rfl, by rfl, by rfl, by rfl, by rfl, by rfl, by rfl, by rfl, by rfl, ⟨by rfl, by rfl⟩, ⟨by rfl, by rfl⟩, ⟨by rfl, by rfl⟩, ⟨by rfl, by rfl⟩⟩
theorem K_keep : keepIn (topK.heap_39 p) (.ref 205) = true := by rfl
theorem K_twin : TwinAt (topK.heap_39 p) := ⟨fun κ h => ⟨⟨_, _, _, _, _, _, _, h 43 _ rfl, rfl, rfl, rfl, h 42 _ rfl, rfl, rfl, by simp [Builtin.Re.reRawOf]⟩⟩, fun κ h => ⟨⟨_, _, _, _, _, _, _, h 48 _ rfl, rfl, rfl, rfl, h 47 _ rfl, rfl, rfl, by simp [Builtin.Re.reRawOf]⟩⟩⟩
theorem K_pats : RePats (topK.heap_39 p) := ⟨fun κ h => ⟨⟨_, _, _, _, _, _, _, h 77 _ rfl, rfl, rfl, rfl, h 76 _ rfl, rfl, rfl, by simp [Builtin.Re.reRawOf]⟩⟩, fun κ h => ⟨⟨_, _, _, _, _, _, _, h 82 _ rfl, rfl, rfl, rfl, h 81 _ rfl, rfl, rfl, by simp [Builtin.Re.reRawOf]⟩⟩⟩
end
end Mine
end
section
open PySem PySem.W PyProof.Rows PySem.Calls PySem.Spec
set_option maxRecDepth 100000
namespace Mine
theorem K_flag (p : Params) (w : World) : FlagAt (topK.heap_39 p) w := by
  refine ⟨⟨_, _, _, rfl, ⟨rfl, rfl, rfl⟩, rfl, ?_, ?_⟩⟩
  · intro e he
    simp only [List.mem_toArray, List.mem_cons, List.not_mem_nil, or_false] at he
    rcases he with rfl | rfl | rfl | rfl | rfl | rfl | rfl | rfl | rfl | rfl
    · exact ⟨1, rfl, rfl⟩
    · exact ⟨2, rfl, rfl⟩
    · exact ⟨4, rfl, rfl⟩
    · exact ⟨8, rfl, rfl⟩
    · exact ⟨16, rfl, rfl⟩
    · exact ⟨32, rfl, rfl⟩
    · exact ⟨64, rfl, rfl⟩
    · exact ⟨128, rfl, rfl⟩
    · exact ⟨256, rfl, rfl⟩
    · exact ⟨512, rfl, rfl⟩
  · intro q hq
    simp only [flagTab, List.mem_cons, List.not_mem_nil, or_false] at hq
    rcases hq with rfl | rfl | rfl | rfl | rfl | rfl | rfl <;> exact ⟨_, rfl⟩
end Mine
end
section
open PySem PySem.W PyProof.Rows PySem.Calls PySem.Spec
set_option maxRecDepth 100000
namespace Mine
theorem ns_some_of {K : Frag} {h : Heap} {N : Addr} {mg : Str → Option Value} {n : Str} {v : Value} (X : K.In h) (G : h.Ns N mg) (e : nsIn K N n = some (some v)) : mg n = some v := by
  obtain ⟨o, es, ep, ho, hd, _, hf⟩ := G
  unfold nsIn at e
  split at e
  · rename_i c d es' n' sl q
    have := X _ _ q
    rw [ho] at this
    cases this
    cases hd
    split at e
    · rename_i en he
      cases e
      rw [← hf]
      unfold nsFind findBy
      rw [← Array.find?_toList, he]
      rfl
    · split at e <;> cases e
  · cases e
theorem glo_of {P : Params} {loose : List Str} {mean : ExcName → Option Value} {mg mb : Str → Option Value} {h : Heap} (T : Top topV loose mean mg mb h) (X : (topK.heap_39 P).In h) : Glo mg mb where
  len := ⟨ns_none_of X T.g rfl, (T.builtins _ (by decide)).trans (by rfl)⟩
  max := ⟨ns_none_of X T.g rfl, (T.builtins _ (by decide)).trans (by rfl)⟩
  hex := ⟨ns_none_of X T.g rfl, (T.builtins _ (by decide)).trans (by rfl)⟩
  sorted := ⟨ns_none_of X T.g rfl, (T.builtins _ (by decide)).trans (by rfl)⟩
  str := ⟨ns_none_of X T.g rfl, (T.builtins _ (by decide)).trans (by rfl)⟩
  type := ⟨ns_none_of X T.g rfl, (T.builtins _ (by decide)).trans (by rfl)⟩
  list := ⟨ns_none_of X T.g rfl, (T.builtins _ (by decide)).trans (by rfl)⟩
  range := ⟨ns_none_of X T.g rfl, (T.builtins _ (by decide)).trans (by rfl)⟩
  twin1 := ns_some_of X T.g rfl
  twin2 := ns_some_of X T.g rfl
  crlf := ⟨_, ns_some_of X T.g rfl⟩
  quote := ns_some_of X T.g rfl
  bis := ns_some_of X T.g rfl
  flags := ns_some_of X T.g rfl
  pretty := ns_some_of X T.g rfl
  nameRe := ns_some_of X T.g rfl
  valueRe := ns_some_of X T.g rfl
  headers := ns_some_of X T.g rfl
  told := ns_some_of X T.g rfl
  driven := ns_some_of X T.g rfl
  table := ns_some_of X T.g rfl
  halves := ns_some_of X T.g rfl
  once := ns_some_of X T.g rfl

/-- what stands while the law runs on -/
def keptK (h : Heap) (L D : Addr) : Kp := fun b => if b = L ∨ b = D then none else h.get? b
theorem base_of {P : Params} {loose : List Str} {mean : ExcName → Option Value} {mg mb : Str → Option Value} {h h' : Heap} {L D : Addr} (T : Top topV loose mean mg mb h) (X : (topK.heap_39 P).In h) (keep : ∀ b o, h.get? b = some o → h'.get? b = some o) (hL : h.objs.size ≤ L) (hD : h.objs.size ≤ D) :
    Base mg mb (topK.heap_39 P) (keptK h' L D) := by
  have up : ∀ a o, h.get? a = some o → keptK h' L D a = some o := fun a o e => by
    have hlt := Heap.lt_size e
    unfold keptK
    rw [if_neg (fun q => q.elim (fun q => by rw [q] at hlt; exact absurd hlt (Nat.not_lt.mpr hL)) (fun q => by rw [q] at hlt; exact absurd hlt (Nat.not_lt.mpr hD)))]
    exact keep a o e
  have nsAt : ∀ {a m}, h.Ns a m → NsAt (keptK h' L D) a m := fun {a m} n => by
    obtain ⟨o, es, ep, e, r⟩ := n
    exact ⟨o, es, ep, up _ _ e, r⟩
  refine ⟨nsAt T.g, nsAt T.b, ?_, fun a o e => up _ _ (X _ _ e)⟩
  obtain ⟨mc, h1, h2⟩ := T.nolimit
  exact ⟨mc, nsAt h1, h2⟩

theorem funs_of (P : Params) (w : World) {mg mb : Str → Option Value} (G : Glo mg mb) : Funs pw w mg mb (topK.heap_39 P) (smallF Ftold) Finit Ftable Fkeys (smallF Fhalves) (smallF Fonce) (pureF Fpretty) where
  told := ⟨fnK P 216 (by decide), (U_told P w mg mb G).fun.small fun _ _ l b => b.le l⟩
  init := U_init P w mg mb G (K_cls P)
  table := ⟨fnK P 228 (by decide), (U_table P w mg mb G (K_cls P) (K_pats P) (K_flag P w)).fun⟩
  keys := ⟨fnK P 157 (by decide), (U_keys P w mg mb G (K_cls P)).fun⟩
  halves := ⟨fnK P 235 (by decide), (U_halves P w mg mb G).fun.small fun _ _ l b => b.le l⟩
  once := ⟨fnK P 240 (by decide), (U_once P w mg mb G (K_twin P)).fun.small fun _ _ l b => b.le l⟩
  pretty := ⟨fnK P 72 (by decide), (U_pretty P w mg mb G (K_flag P w)).fun.pure fun _ _ l b => b.le l⟩

theorem isTrueR_some {r : Option (AF × AS)} (h : isTrueR r = true) : ∃ st, r = some (.ret (.bool true), st) := by
  cases r with
  | none => cases h
  | some p =>
    obtain ⟨fl, st⟩ := p
    cases fl with
    | ret v => cases v with
      | bool b => cases b with
        | true => exact ⟨st, rfl⟩
        | false => cases h
      | _ => cases h
    | _ => cases h
theorem vrs_ints {σ : List Addr} : ∀ {vs : List Value} {ns : List Int}, IntsAre vs ns → VRs σ (ns.map .int) vs
  | _, _, .nil => .nil
  | _, _, .cons _ _ h => .cons ⟨_, rfl⟩ (vrs_ints h)

/-- the law from its second statement on -/
theorem law_end {P : Params} {w : World} {loose : List Str} {mean : ExcName → Option Value} {mg mb : Str → Option Value} {A : Around} {s : Shared} {h : Heap} {L D c a : Addr} {q : Str} {cd : Value} {m : Str → Option Value} {vs : List Value} {ns : List Int} {o : Obj}
    (T : Top topV loose mean mg mb h) (X : (topK.heap_39 P).In h) (rm : Rm A 30 600) (F : Fr h L s.heap m) (hD : s.heap.get? D = some (W.listOf vs.toArray 0)) (hDge : h.objs.size ≤ D) (hDL : D ≠ L) (hI : IntsAre vs ns)
    (hc : s.heap.get? c = some o) (hcd : o.data = .cell (some (.ref D))) (hcL : c ≠ L) (hcD : c ≠ D) (hok : lawOk (ns.map .int) = true) {Q : Flow → Shared → Prop} {E : Value → Shared → Prop}
    (hQ : ∀ h' tk, (∀ b o, h.get? b = some o → h'.get? b = some o) → Q (.ret (.bool true)) { s with heap := h', toks := tk }) : wpAny (model pw w) A (execs lawRest (envL L a c q cd)) Q E s := by
  have G := glo_of T X
  have hDh : h.get? D = none := by
    cases q : h.get? D with
    | none => rfl
    | some o => exact absurd (Heap.lt_size q) (Nat.not_lt.mpr hDge)
  have hB := base_of (h' := s.heap) (L := L) (D := D) T X F.keep F.above hDge
  have kL : keptK s.heap L D L = none := by unfold keptK; rw [if_pos (.inl rfl)]
  have kD : keptK s.heap L D D = none := by unfold keptK; rw [if_pos (.inr rfl)]
  have kc : keptK s.heap L D c = some o := by unfold keptK; rw [if_neg (fun q => q.elim hcL hcD)]; exact hc
  obtain ⟨st', hst⟩ := isTrueR_some hok
  have R : RF (keptK s.heap L D) L nmLaw [(0, D)] [D] ⟨[none, none, none, none, none, none], [], [.list (ns.map .int)]⟩ s.heap := by
    refine ⟨⟨fun b o' e => ?_, fun b hb => ?_, by simp, rfl, fun i ao e => ?_⟩, ⟨m, F.ns, fun i x u hi hu => ?_⟩, kL, ?_, by decide, fun p hp => ?_⟩
    · unfold keptK at e
      split at e
      · cases e
      · exact e
    · rw [List.mem_singleton.mp hb]; exact kD
    · cases i with
      | zero => cases e; exact ⟨D, _, rfl, hD, vs, 0, rfl, vrs_ints hI⟩
      | succ i => cases e
    · have : ∀ i : Nat, ([none, none, none, none, none, none] : List (Option AV))[i]? = some (some u) → False := by
        intro i hi
        match i, hi with
        | 0, h => cases h
        | 1, h => cases h
        | 2, h => cases h
        | 3, h => cases h
        | 4, h => cases h
        | 5, h => cases h
        | n + 6, h => cases h
      exact (this i hu).elim
    · intro hm; exact hDL (List.mem_singleton.mp hm).symm
    · rw [List.mem_singleton.mp hp]; rfl
  refine S.mono ((law_d (smallF Ftold) Finit Ftable Fkeys (smallF Fhalves) (smallF Fonce) (pureF Fpretty)).2 pw w mg mb (topK.heap_39 P) G (K_cls P) (K_keep P) (funs_of P w G) A (keptK s.heap L D) L a c D q cd o hB rm kc hcd) R hst fun τ h' tk' x R' r' => ?_
  obtain ⟨v', rfl, hv⟩ := r'
  cases hv
  refine hQ h' tk' fun b o' e => ?_
  have hlt := Heap.lt_size e
  refine R'.rh.keep b o' ?_
  unfold keptK
  rw [if_neg (fun q => q.elim (fun q => by rw [q] at hlt; exact absurd hlt (Nat.not_lt.mpr F.above)) (fun q => by rw [q, hDh] at e; cases e))]
  exact F.keep b o' e
end Mine
end
open PySem PySem.W PyProof.Rows Mine
set_option maxRecDepth 100000
set_option maxHeartbeats 8000000
theorem PySem.Challenge.cw_us0013_01_holds : PySem.Challenge.rw_us0013_01.Holds := by
  exact Mine.hd (by rfl) (by rfl) (by rfl) (by
      k_go0
      all_goals try k_fold
      iterate 26 walk1
      rename News _ _ _ _ => N9
      have e1 := (N9 _ (.head _)).1
      have e2 := (N9 _ (.tail _ (.tail _ (.tail _ (.tail _ (.head _)))))).1
      refine law_end (by assumption) (by assumption) ⟨rfl, ?_, ?_⟩ (by assumption) e1 ?_ ?_ (by assumption) e2 (by assumption) ?_ ?_ (all_ok _) ?_
      · show callerA.depth + 1 + 30 < recursionLimit
        decide
      · show callerA.units + 3 + 600 < cLine
        decide
      all_goals try rename _ ∧ _ ∧ _ ∧ _ => l9
      · exact Nat.le_of_lt (Nat.lt_trans (Nat.lt_succ_self _) l9.2.2.2)
      · exact fun q => Nat.lt_irrefl _ (q ▸ Nat.lt_trans (Nat.lt_succ_self _) l9.2.2.2)
      · exact Nat.succ_ne_self _
      · exact Nat.ne_of_lt l9.2.2.2
      · intro h' tk' hk
        exact ⟨.inl ⟨.bool true, .bool true, [], rfl, fun _ => rfl, .bool true, postW_of (X := true) rfl (by first | kernel_rfl | simp [OpenLaw.row, WTm.value] | (show WTm.value _ (.eq .res (.lit (.bool true))) _ = _; simp [WTm.value])) rfl, fun _ => ⟨.nil, fun a ha => by cases ha⟩⟩, hk, rfl, by assumption⟩)
