import PyProof.Rows.All
import Wide.All
import OpenK.AllK
import Wide.FinOn
import PySem.Challenge.RW_kt0099_01
set_option Elab.async false
set_option linter.all false
set_option compiler.extract_closed false
theorem Mine.neLow {l : List (PySem.Addr × PySem.Obj)} {L : PySem.Addr} (h : ∀ p ∈ l, p.1 < L) : ∀ p ∈ l, p.1 ≠ L + 1 := fun p hp e => absurd (h p hp) (by rw [e]; exact Nat.not_lt.mpr (Nat.le_succ L))
local macro_rules | `(tactic| walk_at $s:str) => `(tactic| k_extra $s)
local macro_rules | `(tactic| k_all) => `(tactic| k_extra "k_all")
local macro_rules | `(tactic| k_room) => `(tactic| ktr_room)
local macro_rules | `(tactic| k_ne) => `(tactic| (refine PySem.W.neN ?_; (try dsimp only); lia))
local macro_rules | `(tactic| k_ne) => `(tactic| kernel_rfl!)
local macro_rules | `(tactic| k_steps) => `(tactic| k_extra "k_steps")
local macro_rules | `(tactic| ktr_units) => `(tactic| k_extra "ktr_units")
local macro_rules | `(tactic| omega) => `(tactic| k_extra "omega")
local macro_rules | `(tactic| lia) => `(tactic| k_extra "omega")
section
namespace Mine
set_option genSizeOf false
set_option genInjectivity false
inductive T where
  | v (i : Nat) | k (n : Nat) | p (b e : Nat) | a (x y : T) | s (x y : T) | m (x y : T) | d (x y : T) | r (x y : T) | u (x : T) | g (x : T)
inductive F where
  | le (b : Bool) (x y : T) | lt (b : Bool) (x y : T) | eq (b : Bool) (x y : T) | an (p q : F) | or (p q : F) | im (p q : F) | no (p : F)
noncomputable def lkA {α : Type} (d : α) : List α → Nat → α
  | [], _ => d
  | x :: _, 0 => x
  | _ :: l, i + 1 => lkA d l i
noncomputable def T.n (N : List Nat) : T → Nat
  | v i => lkA 0 N i
  | k n => n
  | p b e => b ^ e
  | a x y => x.n N + y.n N
  | s x y => x.n N - y.n N
  | m x y => x.n N * y.n N
  | d x y => x.n N / y.n N
  | r x y => x.n N % y.n N
  | _ => 0
noncomputable def T.z (N : List Nat) (Z : List Int) : T → Int
  | v i => lkA 0 Z i
  | k n => Int.ofNat n
  | p b e => Int.ofNat b ^ e
  | a x y => x.z N Z + y.z N Z
  | s x y => x.z N Z - y.z N Z
  | m x y => x.z N Z * y.z N Z
  | d x y => x.z N Z / y.z N Z
  | r x y => x.z N Z % y.z N Z
  | u x => (x.n N : Int)
  | g x => - x.z N Z
noncomputable def F.den (N : List Nat) (Z : List Int) : F → Prop
  | le true x y => x.n N ≤ y.n N
  | le false x y => x.z N Z ≤ y.z N Z
  | lt true x y => x.n N < y.n N
  | lt false x y => x.z N Z < y.z N Z
  | eq true x y => x.n N = y.n N
  | eq false x y => x.z N Z = y.z N Z
  | an p q => p.den N Z ∧ q.den N Z
  | or p q => p.den N Z ∨ q.den N Z
  | im p q => p.den N Z → q.den N Z
  | no p => ¬ p.den N Z
noncomputable abbrev LF := Int × List Int
noncomputable def dotL : List Int → (Nat → Int) → Int
  | [], _ => 0
  | a :: l, ρ => a * ρ 0 + dotL l (fun i => ρ (i + 1))
noncomputable def evL (l : LF) (ρ : Nat → Int) : Int := l.1 + dotL l.2 ρ
noncomputable def adL : List Int → List Int → List Int
  | [], m => m
  | a :: l, [] => a :: l
  | a :: l, b :: m => (a + b) :: adL l m
noncomputable def mapL (f : Int → Int) : List Int → List Int
  | [] => []
  | a :: l => f a :: mapL f l
noncomputable def unL : Nat → List Int
  | 0 => [1]
  | n + 1 => 0 :: unL n
noncomputable def zerI : Int → Bool
  | .ofNat 0 => true
  | _ => false
noncomputable def eqL : List Int → List Int → Bool
  | [], [] => true
  | a :: l, b :: m => zerI (a - b) && eqL l m
  | _, _ => false
noncomputable def ad (x y : LF) : LF := (x.1 + y.1, adL x.2 y.2)
noncomputable def ml (c : Int) (x : LF) : LF := (c * x.1, mapL (fun a => c * a) x.2)
noncomputable def sb (x y : LF) : LF := ad x (ml (-1) y)
noncomputable def a1 (x : LF) : LF := (x.1 + 1, x.2)
noncomputable def posI : Int → Bool
  | .ofNat (_ + 1) => true
  | _ => false
noncomputable def gcL : List Int → Nat
  | [] => 0
  | a :: l => Nat.gcd a.natAbs (gcL l)
noncomputable def nrm' (x : LF) (g : Int) (y : List Int) : LF := bif posI g && eqL (mapL (fun a => g * a) y) x.2 then (- ((- x.1) / g), y) else x
noncomputable def nrm (x : LF) : LF := nrm' x (gcL x.2) (mapL (fun a => a / (gcL x.2 : Int)) x.2)
noncomputable def hdL : LF → Int
  | (_, []) => 0
  | (_, a :: _) => a
noncomputable def tlL : LF → LF
  | (c, []) => (c, [])
  | (c, _ :: l) => (c, l)
noncomputable def cmbL (x : LF) : List LF → List LF → List LF
  | [], r => r
  | y :: l, r => bif posI (- hdL y) then nrm (ad (ml (- hdL y) (tlL x)) (ml (hdL x) (tlL y))) :: cmbL x l r else cmbL x l r
noncomputable def stpL (all : List LF) : List LF → List LF
  | [] => []
  | x :: l => bif zerI (hdL x) then tlL x :: stpL all l else bif posI (hdL x) then cmbL x all (stpL all l) else stpL all l
noncomputable def fmL : Nat → List LF → Bool
  | 0, cs => cs.any fun c => posI c.1 && c.2.isEmpty
  | n + 1, cs => fmL n (stpL cs cs)
noncomputable def linT (o z : Nat) : T → Bool → Nat → List LF → (Nat → List LF → LF → Bool) → Bool
  | .v i, true, n, cs, k => Nat.blt i o && k n cs (0, unL i)
  | .v i, false, n, cs, k => Nat.blt i z && k n cs (0, unL (o + i))
  | .k c, _, n, cs, k => k n cs (Int.ofNat c, [])
  | .p b e, _, n, cs, k => k n cs (Int.ofNat (b ^ e), [])
  | .a x y, b, n, cs, k => linT o z x b n cs fun n cs f => linT o z y b n cs fun n cs g => k n cs (ad f g)
  | .s x y, b, n, cs, k => linT o z x b n cs fun n cs f => linT o z y b n cs fun n cs g =>
      bif b then k n (nrm (sb g f) :: cs) (sb f g) && k n (nrm (a1 (sb f g)) :: cs) (0, []) else k n cs (sb f g)
  | .m x y, b, n, cs, k => linT o z x b n cs fun n cs f => linT o z y b n cs fun n cs g =>
      bif f.2.isEmpty then k n cs (ml f.1 g) else (g.2.isEmpty && k n cs (ml g.1 f))
  | .d x y, b, n, cs, k => linT o z x b n cs fun n cs f => linT o z y b n cs fun n cs g =>
      posI g.1 && (g.2.isEmpty && k (n + 1) (nrm (sb (ml g.1 (0, unL n)) f) :: nrm (a1 (sb (sb f (ml g.1 (0, unL n))) g)) :: cs) (0, unL n))
  | .r x y, b, n, cs, k => linT o z x b n cs fun n cs f => linT o z y b n cs fun n cs g =>
      posI g.1 && (g.2.isEmpty && k (n + 1) (nrm (sb (ml g.1 (0, unL n)) f) :: nrm (a1 (sb (sb f (ml g.1 (0, unL n))) g)) :: cs) (sb f (ml g.1 (0, unL n))))
  | .u x, b, n, cs, k => !b && linT o z x true n cs k
  | .g x, b, n, cs, k => !b && linT o z x b n cs fun n cs f => k n cs (ml (-1) f)
noncomputable def asm (o z : Nat) : F → Bool → Nat → List LF → (Nat → List LF → Bool) → Bool
  | .le b x y, s, n, cs, k => linT o z x b n cs fun n cs f => linT o z y b n cs fun n cs g => k n (nrm (bif s then sb f g else a1 (sb g f)) :: cs)
  | .lt b x y, s, n, cs, k => linT o z x b n cs fun n cs f => linT o z y b n cs fun n cs g => k n (nrm (bif s then a1 (sb f g) else sb g f) :: cs)
  | .eq b x y, s, n, cs, k => linT o z x b n cs fun n cs f => linT o z y b n cs fun n cs g =>
      bif s then k n (nrm (sb f g) :: nrm (sb g f) :: cs) else k n (nrm (a1 (sb f g)) :: cs) && k n (nrm (a1 (sb g f)) :: cs)
  | .an p q, s, n, cs, k => bif s then asm o z p s n cs fun n cs => asm o z q s n cs k else asm o z p s n cs k && asm o z q s n cs k
  | .or p q, s, n, cs, k => bif s then asm o z p s n cs k && asm o z q s n cs k else asm o z p s n cs fun n cs => asm o z q s n cs k
  | .im p q, s, n, cs, k => bif s then asm o z p false n cs k && asm o z q s n cs k else asm o z p true n cs fun n cs => asm o z q s n cs k
  | .no p, s, n, cs, k => asm o z p (!s) n cs k
noncomputable def natC : Nat → List LF → List LF
  | 0, cs => cs
  | n + 1, cs => natC n ((0, mapL (fun a => - a) (unL n)) :: cs)
noncomputable def chk (p : F) (o z : Nat) : Bool := asm o z p false (o + z) (natC o []) fmL
noncomputable def opT (d : Nat) (ts : List T) : List T := match d, ts with
  | 0, y :: x :: r => .a x y :: r
  | 1, y :: x :: r => .s x y :: r
  | 2, y :: x :: r => .m x y :: r
  | 3, y :: x :: r => .d x y :: r
  | 4, y :: x :: r => .r x y :: r
  | 5, x :: r => .u x :: r
  | _, x :: r => .g x :: r
  | _, r => r
noncomputable def opR (d : Nat) (x y : T) : F := match d with
  | 0 => .le true x y
  | 1 => .lt true x y
  | 2 => .eq true x y
  | 3 => .le false x y
  | 4 => .lt false x y
  | _ => .eq false x y
noncomputable def opF (d : Nat) (ps : List F) : List F := match d, ps with
  | 0, q :: p :: r => .an p q :: r
  | 1, q :: p :: r => .or p q :: r
  | 2, q :: p :: r => .im p q :: r
  | _, p :: r => .no p :: r
  | _, r => r
noncomputable def F.rd : Nat → Nat → List T → List F → F
  | f + 1, c, ts, ps => bif Nat.beq c 0 then (match ps with | p :: _ => p | _ => .eq true (.k 0) (.k 0)) else
    bif Nat.blt (c % 64) 12 then F.rd f (c / 64) (.v (c % 64) :: ts) ps else
    bif Nat.blt (c % 64) 44 then F.rd f (c / 64) (.k (c % 64 - 12) :: ts) ps else
    bif Nat.blt (c % 64) 47 then (bif Nat.beq (c % 64) 44 then F.rd f (c / 262144) (.k (c / 64 % 4096) :: ts) ps else bif Nat.beq (c % 64) 45 then F.rd f (c / 302231454903657293676544) (.k (c / 64 % 4722366482869645213696) :: ts) ps else F.rd f (c / 262144) (.p (c / 64 % 64) (c / 4096 % 64) :: ts) ps) else
    bif Nat.blt (c % 64) 54 then F.rd f (c / 64) (opT (c % 64 - 47) ts) ps else
    bif Nat.blt (c % 64) 60 then (match ts with | y :: x :: r => F.rd f (c / 64) r (opR (c % 64 - 54) x y :: ps) | _ => .eq true (.k 0) (.k 0)) else
    F.rd f (c / 64) ts (opF (c % 64 - 60) ps)
  | 0, _, _, _ => .eq true (.k 0) (.k 0)
noncomputable def F.of (c : Nat) : F := F.rd 200 c [] []
noncomputable def chc (c o z : Nat) : Bool := chk (F.of c) o z
end Mine
end
section
namespace Mine
theorem dot_ad : ∀ (l m : List Int) (ρ : Nat → Int), dotL (adL l m) ρ = dotL l ρ + dotL m ρ
  | [], m, ρ => (Int.zero_add _).symm
  | a :: l, [], ρ => (Int.add_zero _).symm
  | a :: l, b :: m, ρ => by
    show (a + b) * ρ 0 + dotL (adL l m) _ = (a * ρ 0 + dotL l _) + (b * ρ 0 + dotL m _)
    rw [dot_ad l m, Int.add_mul, Int.add_assoc, Int.add_assoc, Int.add_left_comm (b * ρ 0)]
theorem dot_map (c : Int) : ∀ (l : List Int) (ρ : Nat → Int), dotL (mapL (fun a => c * a) l) ρ = c * dotL l ρ
  | [], _ => (Int.mul_zero c).symm
  | a :: l, ρ => by
    show c * a * ρ 0 + dotL (mapL _ l) _ = c * (a * ρ 0 + dotL l _)
    rw [dot_map c l, Int.mul_add, Int.mul_assoc]
theorem ev_ad (x y : LF) (ρ : Nat → Int) : evL (ad x y) ρ = evL x ρ + evL y ρ := by
  show x.1 + y.1 + dotL (adL x.2 y.2) ρ = (x.1 + dotL x.2 ρ) + (y.1 + dotL y.2 ρ)
  rw [dot_ad, Int.add_assoc, Int.add_assoc, Int.add_left_comm y.1]
theorem ev_ml (c : Int) (x : LF) (ρ : Nat → Int) : evL (ml c x) ρ = c * evL x ρ := by
  show c * x.1 + dotL (mapL _ x.2) ρ = c * (x.1 + dotL x.2 ρ)
  rw [dot_map, Int.mul_add]
theorem ev_sb (x y : LF) (ρ : Nat → Int) : evL (sb x y) ρ = evL x ρ - evL y ρ := by
  rw [sb, ev_ad, ev_ml, Int.neg_mul, Int.one_mul]; rfl
theorem ev_a1 (x : LF) (ρ : Nat → Int) : evL (a1 x) ρ = evL x ρ + 1 := by
  show x.1 + 1 + dotL x.2 ρ = x.1 + dotL x.2 ρ + 1
  rw [Int.add_assoc, Int.add_assoc, Int.add_comm 1]
theorem ev_un : ∀ (n : Nat) (ρ : Nat → Int), dotL (unL n) ρ = ρ n
  | 0, ρ => by show 1 * ρ 0 + 0 = _; rw [Int.one_mul, Int.add_zero]
  | n + 1, ρ => by show 0 * ρ 0 + dotL (unL n) _ = _; rw [ev_un n, Int.zero_mul, Int.zero_add]
theorem ev_u (n : Nat) (ρ : Nat → Int) : evL (0, unL n) ρ = ρ n := (Int.zero_add _).trans (ev_un n ρ)
theorem ev_hd : ∀ (x : LF) (ρ : Nat → Int), evL x ρ = hdL x * ρ 0 + evL (tlL x) (fun i => ρ (i + 1))
  | (c, []), ρ => by show c + 0 = 0 * ρ 0 + (c + 0); rw [Int.zero_mul, Int.zero_add]
  | (c, a :: l), ρ => by show c + (a * ρ 0 + dotL l _) = a * ρ 0 + (c + dotL l _); rw [Int.add_left_comm]
theorem posI_ok : ∀ {x : Int}, posI x = true → 0 < x
  | .ofNat (n + 1), _ => Int.ofNat_lt.mpr (Nat.succ_pos n)
theorem zerI_ok : ∀ {x : Int}, zerI x = true → x = 0
  | .ofNat 0, _ => rfl
theorem eqL_ok : ∀ {l m : List Int}, eqL l m = true → l = m
  | [], [], _ => rfl
  | a :: l, b :: m, h => by
    have h := Bool.and_eq_true_iff.mp h
    rw [eqL_ok h.2, Int.sub_eq_zero.mp (zerI_ok h.1)]
theorem nrm_ok (x : LF) (ρ : Nat → Int) (h : evL x ρ ≤ 0) : evL (nrm x) ρ ≤ 0 := by
  unfold nrm nrm'
  generalize (gcL x.2 : Int) = g
  generalize mapL (fun a => a / g) x.2 = y
  cases hb : posI g && eqL (mapL (fun a => g * a) y) x.2 with
  | false => exact h
  | true =>
    have hb := Bool.and_eq_true_iff.mp hb
    have e : evL x ρ = x.1 + g * dotL y ρ := by rw [← dot_map, eqL_ok hb.2]; rfl
    rw [e] at h
    show - ((- x.1) / g) + dotL y ρ ≤ 0
    have h2 : dotL y ρ * g ≤ - x.1 := by rw [Int.mul_comm]; omega
    have h3 := Int.le_ediv_of_mul_le (posI_ok hb.1) h2
    omega
theorem cmb_ok {x : LF} {ρ : Nat → Int} (hp : 0 < hdL x) (hx : evL x ρ ≤ 0) : ∀ (l r : List LF), (∀ y ∈ l, evL y ρ ≤ 0) → (∀ y ∈ r, evL y (fun i => ρ (i + 1)) ≤ 0) → ∀ y ∈ cmbL x l r, evL y (fun i => ρ (i + 1)) ≤ 0
  | [], _, _, hr => hr
  | y :: l, r, hl, hr => by
    have ih := cmb_ok hp hx l r (fun y h => hl y (.tail _ h)) hr
    unfold cmbL
    cases hb : posI (- hdL y) with
    | false => exact ih
    | true =>
      refine List.forall_mem_cons.mpr ⟨nrm_ok _ _ ?_, ih⟩
      have hy := hl y (.head _)
      rw [ev_hd] at hx hy
      rw [ev_ad, ev_ml, ev_ml]
      have h1 := Int.mul_le_mul_of_nonneg_left hx (Int.le_of_lt (posI_ok hb))
      have h2 := Int.mul_le_mul_of_nonneg_left hy (Int.le_of_lt hp)
      rw [Int.mul_zero, Int.mul_add] at h1 h2
      have e : - hdL y * (hdL x * ρ 0) = - (hdL x * (hdL y * ρ 0)) := by rw [Int.neg_mul, Int.mul_left_comm]
      rw [e] at h1
      omega
theorem stp_ok {all : List LF} {ρ : Nat → Int} (ha : ∀ y ∈ all, evL y ρ ≤ 0) : ∀ l : List LF, (∀ y ∈ l, evL y ρ ≤ 0) → ∀ y ∈ stpL all l, evL y (fun i => ρ (i + 1)) ≤ 0
  | [], _ => fun _ h => nomatch h
  | x :: l, hl => by
    have ih := stp_ok ha l fun y h => hl y (.tail _ h)
    have hx := hl x (.head _)
    unfold stpL
    cases hz : zerI (hdL x) with
    | true =>
      rw [ev_hd, zerI_ok hz, Int.zero_mul, Int.zero_add] at hx
      exact List.forall_mem_cons.mpr ⟨hx, ih⟩
    | false =>
      cases hp : posI (hdL x) with
      | true => exact cmb_ok (posI_ok hp) hx _ _ ha ih
      | false => exact ih
theorem fm_ok : ∀ (n : Nat) (cs : List LF) (ρ : Nat → Int), (∀ y ∈ cs, evL y ρ ≤ 0) → fmL n cs = true → False
  | 0, cs, ρ, h, hf => by
    obtain ⟨⟨c, l⟩, hm, hc⟩ := List.any_eq_true.mp hf
    have hc := Bool.and_eq_true_iff.mp hc
    have h := h _ hm
    cases l with
    | nil => exact Int.not_lt.mpr h (by rw [show evL (c, []) ρ = c from Int.add_zero c]; exact posI_ok hc.1)
    | cons => exact nomatch hc.2
  | n + 1, cs, ρ, h, hf => fm_ok n _ _ (stp_ok h _ h) hf
noncomputable def Ag (n : Nat) (ρ ρ' : Nat → Int) : Prop := ∀ i, i < n → ρ' i = ρ i
noncomputable def Gd (P : (Nat → Int) → Prop) (n : Nat) (ρ : Nat → Int) : Prop := ∀ ρ', Ag n ρ ρ' → P ρ'
theorem Ag.trans {n n' : Nat} {ρ ρ' ρ'' : Nat → Int} (hn : n ≤ n') (h : Ag n ρ ρ') (h' : Ag n' ρ' ρ'') : Ag n ρ ρ'' := fun i hi => (h' i (Nat.lt_of_lt_of_le hi hn)).trans (h i hi)
theorem Gd.mono {P : (Nat → Int) → Prop} {n n' : Nat} {ρ ρ' : Nat → Int} (H : Gd P n ρ) (hn : n ≤ n') (h : Ag n ρ ρ') : Gd P n' ρ' := fun ρ'' h' => H ρ'' (h.trans hn h')
noncomputable def Sat (cs : List LF) (ρ : Nat → Int) : Prop := ∀ c ∈ cs, evL c ρ ≤ 0
noncomputable def Vl (f : LF) (x : Int) (ρ : Nat → Int) : Prop := evL f ρ = x
noncomputable def Ctd (n : Nat) (ρ : Nat → Int) (P : Nat → (Nat → Int) → Prop) : Prop := ∀ n' ρ', n ≤ n' → Ag n ρ ρ' → P n' ρ' → False
theorem Gd.cons {c : LF} {cs : List LF} {n : Nat} {ρ : Nat → Int} (h : Gd (fun ρ => evL c ρ ≤ 0) n ρ) (H : Gd (Sat cs) n ρ) : Gd (Sat (nrm c :: cs)) n ρ := fun ρ' a => List.forall_mem_cons.mpr ⟨nrm_ok _ _ (h ρ' a), H ρ' a⟩
theorem div_ok (n : Nat) (ρ : Nat → Int) (cs : List LF) (f g : LF) (x y : Int) (hc : Gd (Sat cs) n ρ) (hf : Gd (Vl f x) n ρ) (hg : Gd (Vl g y) n ρ) (hp : posI g.1 = true) (he : g.2.isEmpty = true)
    (K : ∀ ρ', Ag n ρ ρ' → Gd (Sat (nrm (sb (ml g.1 (0, unL n)) f) :: nrm (a1 (sb (sb f (ml g.1 (0, unL n))) g)) :: cs)) (n + 1) ρ' → Gd (Vl (0, unL n) (x / y)) (n + 1) ρ' → Gd (Vl (sb f (ml g.1 (0, unL n))) (x % y)) (n + 1) ρ' → False) : False := by
  obtain ⟨d, m⟩ := g
  cases m with
  | cons => exact nomatch he
  | nil =>
    have hy : d = y := (Int.add_zero d).symm.trans (hg ρ fun _ _ => rfl)
    subst hy
    have hd := posI_ok hp
    have e1 : Ag n ρ (fun i => if i = n then x / d else ρ i) := fun i hi => if_neg (Nat.ne_of_lt hi)
    have q : ∀ ρ', Ag (n + 1) (fun i => if i = n then x / d else ρ i) ρ' → Ag n ρ ρ' ∧ ρ' n = x / d := fun ρ' a => ⟨fun i hi => (a i (Nat.lt_succ_of_lt hi)).trans (e1 i hi), (a n (Nat.lt_succ_self n)).trans (if_pos rfl)⟩
    refine K _ e1 (Gd.cons (fun ρ' a => ?_) (Gd.cons (fun ρ' a => ?_) fun ρ' a => hc ρ' (q ρ' a).1)) (fun ρ' a => ?_) (fun ρ' a => ?_)
    · show evL (sb (ml d (0, unL n)) f) ρ' ≤ 0
      rw [ev_sb, ev_ml, ev_u, (q ρ' a).2, hf ρ' (q ρ' a).1]
      exact Int.sub_nonpos_of_le (Int.mul_ediv_self_le (Int.ne_of_gt hd))
    · show evL (a1 (sb (sb f (ml d (0, unL n))) (d, []))) ρ' ≤ 0
      rw [ev_a1, ev_sb, ev_sb, ev_ml, ev_u, (q ρ' a).2, hf ρ' (q ρ' a).1, hg ρ' (q ρ' a).1]
      have h1 : x % d < d := Int.emod_lt_of_pos x hd
      have h2 : d * (x / d) + x % d = x := Int.mul_ediv_add_emod x d
      omega
    · exact (ev_u _ _).trans (q ρ' a).2
    · show evL (sb f (ml d (0, unL n))) ρ' = x % d
      rw [ev_sb, ev_ml, ev_u, (q ρ' a).2, hf ρ' (q ρ' a).1]
      have h2 : d * (x / d) + x % d = x := Int.mul_ediv_add_emod x d
      omega
theorem sb_le {f g : LF} {x y : Int} {n : Nat} {ρ : Nat → Int} (hf : Gd (Vl f x) n ρ) (hg : Gd (Vl g y) n ρ) (h : x ≤ y) : Gd (fun ρ => evL (sb f g) ρ ≤ 0) n ρ := fun ρ' a => by
  show evL (sb f g) ρ' ≤ 0
  rw [ev_sb, hf ρ' a, hg ρ' a]; exact Int.sub_nonpos_of_le h
theorem sb_lt {f g : LF} {x y : Int} {n : Nat} {ρ : Nat → Int} (hf : Gd (Vl f x) n ρ) (hg : Gd (Vl g y) n ρ) (h : x < y) : Gd (fun ρ => evL (a1 (sb f g)) ρ ≤ 0) n ρ := fun ρ' a => by
  show evL (a1 (sb f g)) ρ' ≤ 0
  rw [ev_a1, ev_sb, hf ρ' a, hg ρ' a]; exact Int.add_one_le_of_lt (Int.sub_neg_of_lt h)
section
variable (o z : Nat) (N : List Nat) (Z : List Int)
noncomputable def vlT (b : Bool) (x : T) : Int := bif b then (x.n N : Int) else x.z N Z
noncomputable def rho0 (i : Nat) : Int := if i < o then ((lkA 0 N i : Nat) : Int) else lkA 0 Z (i - o)
variable {o z N Z}
noncomputable def LinOk (o z : Nat) (N : List Nat) (Z : List Int) (x : T) : Prop := ∀ (b : Bool) (n : Nat) (cs : List LF) (k : Nat → List LF → LF → Bool) (ρ : Nat → Int), o + z ≤ n → Ag (o + z) (rho0 o N Z) ρ → Gd (Sat cs) n ρ →
    linT o z x b n cs k = true → (∀ n' ρ' cs' f, n ≤ n' → Ag n ρ ρ' → Gd (Sat cs') n' ρ' → Gd (Vl f (vlT N Z b x)) n' ρ' → k n' cs' f = true → False) → False
theorem LinOk.two {x y : T} (hx : LinOk o z N Z x) (hy : LinOk o z N Z y) {b : Bool} {n : Nat} {cs : List LF} {k : Nat → List LF → LF → LF → Bool} {ρ : Nat → Int} (hn : o + z ≤ n) (hr : Ag (o + z) (rho0 o N Z) ρ) (hc : Gd (Sat cs) n ρ)
    (h : (linT o z x b n cs fun n cs f => linT o z y b n cs fun n cs g => k n cs f g) = true)
    (K : ∀ n' ρ' cs' f g, n ≤ n' → Ag n ρ ρ' → Gd (Sat cs') n' ρ' → Gd (Vl f (vlT N Z b x)) n' ρ' → Gd (Vl g (vlT N Z b y)) n' ρ' → k n' cs' f g = true → False) : False := by
  refine hx b n cs _ ρ hn hr hc h fun n1 ρ1 cs1 f h1 h2 h3 h4 h5 => ?_
  refine hy b n1 cs1 _ ρ1 (Nat.le_trans hn h1) (hr.trans hn h2) h3 h5 fun n2 ρ2 cs2 g g1 g2 g3 g4 g5 => ?_
  exact K n2 ρ2 cs2 f g (Nat.le_trans h1 g1) (h2.trans h1 g2) g3 (h4.mono g1 g2) g4 g5
theorem LinOk.leaf {v : Int} {n : Nat} {cs : List LF} {k : Nat → List LF → LF → Bool} {ρ : Nat → Int} (hc : Gd (Sat cs) n ρ) (f : LF) (hf : Gd (Vl f v) n ρ) (h : k n cs f = true)
    (K : ∀ n' ρ' cs' f, n ≤ n' → Ag n ρ ρ' → Gd (Sat cs') n' ρ' → Gd (Vl f v) n' ρ' → k n' cs' f = true → False) : False := K n ρ cs f (Nat.le_refl _) (fun _ _ => rfl) hc hf h
theorem lin_ok (x : T) : LinOk o z N Z x := by
  induction x with
  | v i =>
    intro b n cs k ρ hn hr hc h
    cases b with
    | true =>
      have h := Bool.and_eq_true_iff.mp h
      have hi := Nat.blt_eq.mp h.1
      have hj := Nat.lt_of_lt_of_le hi (Nat.le_add_right _ z)
      exact LinOk.leaf hc _ (fun ρ' a => (ev_u i ρ').trans ((a i (Nat.lt_of_lt_of_le hj hn)).trans ((hr i hj).trans (if_pos hi)))) h.2
    | false =>
      have h := Bool.and_eq_true_iff.mp h
      have hj := Nat.add_lt_add_left (Nat.blt_eq.mp h.1) o
      exact LinOk.leaf hc _ (fun ρ' a => (ev_u _ ρ').trans ((a _ (Nat.lt_of_lt_of_le hj hn)).trans ((hr _ hj).trans ((if_neg (Nat.not_lt.mpr (Nat.le_add_right _ i))).trans (congrArg (lkA 0 Z) (Nat.add_sub_cancel_left _ _)))))) h.2
  | k c => exact fun b n cs k ρ hn hr hc h => LinOk.leaf hc _ (fun ρ' _ => by cases b <;> exact Int.add_zero _) h
  | p c e =>
    refine fun b n cs k ρ hn hr hc h => LinOk.leaf hc _ (fun ρ' _ => ?_) h
    cases b with
    | true => exact Int.add_zero _
    | false => exact (Int.add_zero _).trans (Int.natCast_pow c e)
  | u x ih =>
    intro b n cs k ρ hn hr hc h
    cases b with
    | true => exact nomatch h
    | false => exact ih true n cs k ρ hn hr hc h
  | g x ih =>
    intro b n cs k ρ hn hr hc h K
    cases b with
    | true => exact nomatch h
    | false => exact ih false n cs _ ρ hn hr hc h fun n' ρ' cs' f h1 h2 h3 h4 h5 => K n' ρ' cs' _ h1 h2 h3 (fun ρ'' a => (ev_ml (-1) f ρ'').trans ((congrArg (-1 * ·) (h4 ρ'' a)).trans (Int.neg_one_mul _))) h5
  | a x y ihx ihy =>
    intro b n cs k ρ hn hr hc h K
    refine ihx.two ihy (k := fun n cs f g => k n cs (ad f g)) hn hr hc h fun n2 ρ2 cs2 f g g1 g2 g3 f4 g4 g5 => K n2 ρ2 cs2 _ g1 g2 g3 (fun ρ' e => (ev_ad f g ρ').trans ?_) g5
    rw [f4 ρ' e, g4 ρ' e]
    cases b <;> rfl
  | s x y ihx ihy =>
    intro b n cs k ρ hn hr hc h K
    refine ihx.two ihy (k := fun n cs f g => bif b then k n (nrm (sb g f) :: cs) (sb f g) && k n (nrm (a1 (sb f g)) :: cs) (0, []) else k n cs (sb f g)) hn hr hc h fun n2 ρ2 cs2 f g g1 g2 g3 f4 g4 g5 => ?_
    have K' := fun cs' f => K n2 ρ2 cs' f g1 g2
    clear K h
    cases b with
    | false => exact K' cs2 _ g3 (fun ρ' e => (ev_sb f g ρ').trans (by rw [f4 ρ' e, g4 ρ' e]; rfl)) g5
    | true =>
      have g5 := Bool.and_eq_true_iff.mp g5
      by_cases hl : y.n N ≤ x.n N
      · refine K' _ _ (Gd.cons (sb_le g4 f4 (Int.ofNat_le.mpr hl)) g3) (fun ρ' e => (ev_sb f g ρ').trans ?_) g5.1
        rw [f4 ρ' e, g4 ρ' e]
        exact (Int.natCast_sub hl).symm
      · exact K' _ (0, []) (Gd.cons (sb_lt f4 g4 (Int.ofNat_lt.mpr (Nat.lt_of_not_le hl))) g3) (fun ρ' e => (congrArg Nat.cast (Nat.sub_eq_zero_of_le (Nat.le_of_not_le hl)).symm : ((0 : Nat) : Int) = ((x.n N - y.n N : Nat) : Int))) g5.2
  | m x y ihx ihy =>
    intro b n cs k ρ hn hr hc h K
    refine ihx.two ihy (k := fun n cs f g => bif f.2.isEmpty then k n cs (ml f.1 g) else (g.2.isEmpty && k n cs (ml g.1 f))) hn hr hc h fun n2 ρ2 cs2 f g g1 g2 g3 f4 g4 g5 => ?_
    have K' := fun f => K n2 ρ2 cs2 f g1 g2 g3
    clear K h
    have e : vlT N Z b (.m x y) = vlT N Z b x * vlT N Z b y := by cases b <;> rfl
    obtain ⟨c, l⟩ := f
    obtain ⟨d, m⟩ := g
    cases l with
    | nil =>
      refine K' _ (fun ρ' a => (ev_ml c (d, m) ρ').trans ?_) g5
      rw [g4 ρ' a, e, ← f4 ρ' a]
      exact congrArg (· * _) (Int.add_zero c).symm
    | cons =>
      have g5 := Bool.and_eq_true_iff.mp g5
      cases m with
      | cons => exact nomatch g5.1
      | nil =>
        refine K' _ (fun ρ' a => (ev_ml d _ ρ').trans ?_) g5.2
        rw [f4 ρ' a, e, ← g4 ρ' a, Int.mul_comm]
        exact congrArg (_ * ·) (Int.add_zero d).symm
  | d x y ihx ihy =>
    intro b n cs k ρ hn hr hc h K
    refine ihx.two ihy (k := fun n cs f g => posI g.1 && (g.2.isEmpty && k (n + 1) (nrm (sb (ml g.1 (0, unL n)) f) :: nrm (a1 (sb (sb f (ml g.1 (0, unL n))) g)) :: cs) (0, unL n))) hn hr hc h fun n2 ρ2 cs2 f g g1 g2 g3 f4 g4 g5 => ?_
    have g5 := Bool.and_eq_true_iff.mp g5
    have g6 := Bool.and_eq_true_iff.mp g5.2
    exact div_ok n2 ρ2 cs2 f g (vlT N Z b x) (vlT N Z b y) g3 f4 g4 g5.1 g6.1 fun ρ3 a1 a2 a3 a4 => K (n2 + 1) ρ3 _ _ (Nat.le_succ_of_le g1) (g2.trans g1 a1) a2 (by cases b <;> exact a3) g6.2
  | r x y ihx ihy =>
    intro b n cs k ρ hn hr hc h K
    refine ihx.two ihy (k := fun n cs f g => posI g.1 && (g.2.isEmpty && k (n + 1) (nrm (sb (ml g.1 (0, unL n)) f) :: nrm (a1 (sb (sb f (ml g.1 (0, unL n))) g)) :: cs) (sb f (ml g.1 (0, unL n))))) hn hr hc h fun n2 ρ2 cs2 f g g1 g2 g3 f4 g4 g5 => ?_
    have g5 := Bool.and_eq_true_iff.mp g5
    have g6 := Bool.and_eq_true_iff.mp g5.2
    exact div_ok n2 ρ2 cs2 f g (vlT N Z b x) (vlT N Z b y) g3 f4 g4 g5.1 g6.1 fun ρ3 a1 a2 a3 a4 => K (n2 + 1) ρ3 _ _ (Nat.le_succ_of_le g1) (g2.trans g1 a1) a2 (by cases b <;> exact a4) g6.2
end
end Mine
end
section
namespace Mine
section
variable {o z : Nat} {N : List Nat} {Z : List Int}
noncomputable def sg (s : Bool) (P : Prop) : Prop := bif s then P else ¬ P
theorem le_den (b : Bool) (x y : T) : F.den N Z (.le b x y) ↔ vlT N Z b x ≤ vlT N Z b y := by cases b with | true => exact Int.ofNat_le.symm | false => exact Iff.rfl
theorem lt_den (b : Bool) (x y : T) : F.den N Z (.lt b x y) ↔ vlT N Z b x < vlT N Z b y := by cases b with | true => exact Int.ofNat_lt.symm | false => exact Iff.rfl
theorem eq_den (b : Bool) (x y : T) : F.den N Z (.eq b x y) ↔ vlT N Z b x = vlT N Z b y := by cases b with | true => exact Int.ofNat_inj.symm | false => exact Iff.rfl
theorem asm_ok : ∀ (p : F) (s : Bool) (n : Nat) (cs : List LF) (k : Nat → List LF → Bool) (ρ : Nat → Int), o + z ≤ n → Ag (o + z) (rho0 o N Z) ρ → Gd (Sat cs) n ρ →
    asm o z p s n cs k = true → sg s (p.den N Z) → (∀ n' ρ' cs', n ≤ n' → Ag n ρ ρ' → Gd (Sat cs') n' ρ' → k n' cs' = true → False) → False := by
  intro p
  induction p with
  | le b x y =>
    intro s n cs k ρ hn hr hc h hs K
    refine LinOk.two (lin_ok x) (lin_ok y) (k := fun n cs f g => k n (nrm (bif s then sb f g else a1 (sb g f)) :: cs)) hn hr hc h fun n' ρ' cs' f g h1 h2 h3 h4 h5 h6 => K n' ρ' _ h1 h2 (Gd.cons ?_ h3) h6
    cases s with
    | true => exact sb_le h4 h5 ((le_den b x y).mp hs)
    | false => exact sb_lt h5 h4 (Int.not_le.mp fun c => hs ((le_den b x y).mpr c))
  | lt b x y =>
    intro s n cs k ρ hn hr hc h hs K
    refine LinOk.two (lin_ok x) (lin_ok y) (k := fun n cs f g => k n (nrm (bif s then a1 (sb f g) else sb g f) :: cs)) hn hr hc h fun n' ρ' cs' f g h1 h2 h3 h4 h5 h6 => K n' ρ' _ h1 h2 (Gd.cons ?_ h3) h6
    cases s with
    | true => exact sb_lt h4 h5 ((lt_den b x y).mp hs)
    | false => exact sb_le h5 h4 (Int.not_lt.mp fun c => hs ((lt_den b x y).mpr c))
  | eq b x y =>
    intro s n cs k ρ hn hr hc h hs K
    refine LinOk.two (lin_ok x) (lin_ok y) (k := fun n cs f g => bif s then k n (nrm (sb f g) :: nrm (sb g f) :: cs) else k n (nrm (a1 (sb f g)) :: cs) && k n (nrm (a1 (sb g f)) :: cs)) hn hr hc h fun n' ρ' cs' f g h1 h2 h3 h4 h5 h6 => ?_
    cases s with
    | true =>
      have e := (eq_den b x y).mp hs
      exact K n' ρ' _ h1 h2 (Gd.cons (sb_le h4 h5 (Int.le_of_eq e)) (Gd.cons (sb_le h5 h4 (Int.le_of_eq e.symm)) h3)) h6
    | false =>
      have h6 := Bool.and_eq_true_iff.mp h6
      rcases Int.lt_or_gt_of_ne fun c => hs ((eq_den b x y).mpr c) with e | e
      · exact K n' ρ' _ h1 h2 (Gd.cons (sb_lt h4 h5 e) h3) h6.1
      · exact K n' ρ' _ h1 h2 (Gd.cons (sb_lt h5 h4 e) h3) h6.2
  | no p ih =>
    intro s n cs k ρ hn hr hc h hs K
    refine ih (!s) n cs k ρ hn hr hc h ?_ K
    cases s with
    | true => exact hs
    | false => exact Classical.not_not.mp hs
  | _ p q ihp ihq =>
    intro s n cs k ρ hn hr hc h hs K
    have two : ∀ a b, asm o z p a n cs (fun n cs => asm o z q b n cs k) = true → sg a (p.den N Z) → sg b (q.den N Z) → False := fun a b h hp hq =>
      ihp a n cs _ ρ hn hr hc h hp fun n1 ρ1 cs1 h1 h2 h3 h4 => ihq b n1 cs1 k ρ1 (Nat.le_trans hn h1) (hr.trans hn h2) h3 h4 hq fun n2 ρ2 cs2 g1 g2 => K n2 ρ2 cs2 (Nat.le_trans h1 g1) (h2.trans h1 g2)
    have one : ∀ a b, (asm o z p a n cs k && asm o z q b n cs k) = true → sg a (p.den N Z) ∨ sg b (q.den N Z) → False := fun a b h o => by
      have h := Bool.and_eq_true_iff.mp h
      exact o.elim (fun o => ihp a n cs k ρ hn hr hc h.1 o K) (fun o => ihq b n cs k ρ hn hr hc h.2 o K)
    cases s with
    | true => first
      | exact two true true h hs.1 hs.2
      | exact one true true h hs
      | exact one false true h ((Classical.em _).elim (fun e => .inr (hs e)) .inl)
    | false => first
      | exact one false false h (Classical.not_and_iff_not_or_not.mp hs)
      | exact two false false h (fun e => hs (.inl e)) (fun e => hs (.inr e))
      | exact two true false h (Classical.byContradiction fun e => hs fun e' => (e e').elim) (fun e => hs fun _ => e)
theorem nat_ok {ρ : Nat → Int} (n : Nat) (m : Nat) (h : ∀ i, i < n → ∀ ρ', Ag m ρ ρ' → 0 ≤ ρ' i) : ∀ (k : Nat) (cs : List LF), k ≤ n → Gd (Sat cs) m ρ → Gd (Sat (natC k cs)) m ρ
  | 0, _, _, hc => hc
  | k + 1, cs, hk, hc => nat_ok n m h k _ (Nat.le_of_succ_le hk) fun ρ' a => List.forall_mem_cons.mpr ⟨by
      have e : evL (0, mapL (fun a => -1 * a) (unL k)) ρ' ≤ 0 := by
        have := h k hk ρ' a
        rw [show evL (0, mapL (fun a => -1 * a) (unL k)) ρ' = 0 + _ from congrArg (0 + ·) (dot_map (-1) (unL k) ρ'), ev_un]
        omega
      rw [show (fun a : Int => - a) = fun a => -1 * a from funext fun a => (Int.neg_one_mul a).symm]
      exact e, hc ρ' a⟩
end
theorem dec (p : F) (o z : Nat) (h : chk p o z = true) (N : List Nat) (Z : List Int) : p.den N Z := Classical.byContradiction fun c => by
  refine asm_ok p false _ _ _ (rho0 o N Z) (Nat.le_refl (o + z)) (fun _ _ => rfl) ?_ h c fun n ρ cs _ _ h3 h4 => fm_ok n cs ρ (h3 ρ fun _ _ => rfl) h4
  refine nat_ok o _ (fun i hi ρ' a => ?_) _ _ (Nat.le_refl _) fun _ _ _ h => nomatch h
  rw [a i (Nat.lt_of_lt_of_le hi (Nat.le_add_right _ _)), rho0, if_pos hi]
  exact Int.natCast_nonneg _
theorem dn00 (c : Nat) (h : chc c 0 0 = true) : F.den [] [] (F.of c) := dec _ 0 0 h _ _
theorem dn01 {z0 : Int} (c : Nat) (h : chc c 0 1 = true) : F.den [] [z0] (F.of c) := dec _ 0 1 h _ _
theorem dn02 {z0 z1 : Int} (c : Nat) (h : chc c 0 2 = true) : F.den [] [z0, z1] (F.of c) := dec _ 0 2 h _ _
theorem dn03 {z0 z1 z2 : Int} (c : Nat) (h : chc c 0 3 = true) : F.den [] [z0, z1, z2] (F.of c) := dec _ 0 3 h _ _
theorem dn05 {z0 z1 z2 z3 z4 : Int} (c : Nat) (h : chc c 0 5 = true) : F.den [] [z0, z1, z2, z3, z4] (F.of c) := dec _ 0 5 h _ _
theorem dn10 {a0 : Nat} (c : Nat) (h : chc c 1 0 = true) : F.den [a0] [] (F.of c) := dec _ 1 0 h _ _
theorem dn11 {a0 : Nat} {z0 : Int} (c : Nat) (h : chc c 1 1 = true) : F.den [a0] [z0] (F.of c) := dec _ 1 1 h _ _
theorem dn12 {a0 : Nat} {z0 z1 : Int} (c : Nat) (h : chc c 1 2 = true) : F.den [a0] [z0, z1] (F.of c) := dec _ 1 2 h _ _
theorem dn13 {a0 : Nat} {z0 z1 z2 : Int} (c : Nat) (h : chc c 1 3 = true) : F.den [a0] [z0, z1, z2] (F.of c) := dec _ 1 3 h _ _
theorem dn20 {a0 a1 : Nat} (c : Nat) (h : chc c 2 0 = true) : F.den [a0, a1] [] (F.of c) := dec _ 2 0 h _ _
theorem dn21 {a0 a1 : Nat} {z0 : Int} (c : Nat) (h : chc c 2 1 = true) : F.den [a0, a1] [z0] (F.of c) := dec _ 2 1 h _ _
theorem dn22 {a0 a1 : Nat} {z0 z1 : Int} (c : Nat) (h : chc c 2 2 = true) : F.den [a0, a1] [z0, z1] (F.of c) := dec _ 2 2 h _ _
theorem dn23 {a0 a1 : Nat} {z0 z1 z2 : Int} (c : Nat) (h : chc c 2 3 = true) : F.den [a0, a1] [z0, z1, z2] (F.of c) := dec _ 2 3 h _ _
theorem dn30 {a0 a1 a2 : Nat} (c : Nat) (h : chc c 3 0 = true) : F.den [a0, a1, a2] [] (F.of c) := dec _ 3 0 h _ _
theorem dn31 {a0 a1 a2 : Nat} {z0 : Int} (c : Nat) (h : chc c 3 1 = true) : F.den [a0, a1, a2] [z0] (F.of c) := dec _ 3 1 h _ _
theorem dn40 {a0 a1 a2 a3 : Nat} (c : Nat) (h : chc c 4 0 = true) : F.den [a0, a1, a2, a3] [] (F.of c) := dec _ 4 0 h _ _
theorem dn42 {a0 a1 a2 a3 : Nat} {z0 z1 : Int} (c : Nat) (h : chc c 4 2 = true) : F.den [a0, a1, a2, a3] [z0, z1] (F.of c) := dec _ 4 2 h _ _
theorem dn50 {a0 a1 a2 a3 a4 : Nat} (c : Nat) (h : chc c 5 0 = true) : F.den [a0, a1, a2, a3, a4] [] (F.of c) := dec _ 5 0 h _ _
theorem dn60 {a0 a1 a2 a3 a4 a5 : Nat} (c : Nat) (h : chc c 6 0 = true) : F.den [a0, a1, a2, a3, a4, a5] [] (F.of c) := dec _ 6 0 h _ _
theorem dn61 {a0 a1 a2 a3 a4 a5 : Nat} {z0 : Int} (c : Nat) (h : chc c 6 1 = true) : F.den [a0, a1, a2, a3, a4, a5] [z0] (F.of c) := dec _ 6 1 h _ _
end Mine
end
section
open PySem PySem.W PyProof.Rows
namespace HD
@[reducible] noncomputable def pw : Program := PySem.Challenge.pw_kt0099_01
noncomputable def topSt (i : Nat) : Stmt := pw.main.body.getD i (.Pass ⟨0, 0, 0, 0⟩)
noncomputable def noArgs : Arguments := { posonlyargs := [], args := [], vararg := none, kwonlyargs := [], kw_defaults := [], kwarg := none, defaults := [] }
noncomputable def noScope : Scope := { kind := .module, names := [], isGenerator := false, isCoroutine := false, more := [] }
noncomputable def stParts : Stmt → List Stmt × Arguments × Scope
  | .FunctionDef _ a b _ _ _ s .. => (b, a, s)
  | .ClassDef _ _ _ b .. => (b, noArgs, noScope)
  | _ => ([], noArgs, noScope)
noncomputable def stBody (s : Stmt) : List Stmt := (stParts s).1
noncomputable def stArgs (s : Stmt) : Arguments := (stParts s).2.1
noncomputable def stScope (s : Stmt) : Scope := (stParts s).2.2
noncomputable def stDoc (b : List Stmt) : Str := (docOf b).getD Str.empty
noncomputable def subSt (i j : Nat) : Stmt := (stBody (topSt i)).getD j (.Pass ⟨0, 0, 0, 0⟩)
@[reducible] noncomputable def lit {α : Type} {a : α} (b : α) (_ : a = b := by (conv => rhs; whnf); first | done | exact rfl) : α := a
noncomputable def q (s : String) (t : Nat) : Value := .str (Str.ofString s) t
noncomputable def j (n : Int) : Value := .int n 0
noncomputable def ke (P : Params) (s : String) (t : Nat) (v : Value) : DictEntry := ⟨PyData.keyHash P (Str.ofString s), .str (Str.ofString s) t, v⟩
noncomputable def lf (o : Obj) : BT := .node o .nil .nil
noncomputable def nd (o : Obj) (l r : BT) : BT := .node o l r
noncomputable def tu : Obj := ⟨.type "tuple", none, (.seq #[] 0), #[]⟩
set_option maxRecDepth 100000
noncomputable def docP : {l : List Char // Str.ofString (String.ofList l) = stDoc (stBody (topSt 20))} := ⟨_, rfl⟩
noncomputable def docN : Str := ⟨(docP.1.map Char.toNat).toArray⟩
theorem docN_eq : stDoc (stBody (topSt 20)) = docN := docP.2.symm.trans (PySem.W.Fast.ofString_ofList _)
noncomputable def setDoc (s : Stmt) (d : Str) : Stmt := match s with
  | .ClassDef n bs ks (_ :: rest) ds tp sc ts b sa pos => .ClassDef n bs ks (.Expr (.Constant (.str d) 0 ⟨237, 4, 309, 7⟩) ⟨237, 4, 309, 7⟩ :: rest) ds tp sc ts b sa pos
  | s => s
noncomputable def a_0 : Arguments := stArgs (topSt 0)
noncomputable def b_0 : List Stmt := stBody (topSt 0)
noncomputable def s_0 : Scope := stScope (topSt 0)
@[reducible] noncomputable def a_3 : Arguments := lit (stArgs (topSt 3))
@[reducible] noncomputable def b_3 : List Stmt := lit (stBody (topSt 3))
@[reducible] noncomputable def s_3 : Scope := lit (stScope (topSt 3))
@[reducible] noncomputable def a_6 : Arguments := lit (stArgs (topSt 6))
@[reducible] noncomputable def b_6 : List Stmt := lit (stBody (topSt 6))
@[reducible] noncomputable def s_6 : Scope := lit (stScope (topSt 6))
@[reducible] noncomputable def a_7 : Arguments := lit (stArgs (topSt 7))
@[reducible] noncomputable def b_7 : List Stmt := lit (stBody (topSt 7))
@[reducible] noncomputable def s_7 : Scope := lit (stScope (topSt 7))
@[reducible] noncomputable def a_8 : Arguments := lit (stArgs (topSt 8))
@[reducible] noncomputable def b_8 : List Stmt := lit (stBody (topSt 8))
@[reducible] noncomputable def s_8 : Scope := lit (stScope (topSt 8))
@[reducible] noncomputable def a_10 : Arguments := lit (stArgs (topSt 10))
@[reducible] noncomputable def b_10 : List Stmt := lit (stBody (topSt 10))
@[reducible] noncomputable def s_10 : Scope := lit (stScope (topSt 10))
@[reducible] noncomputable def a_11 : Arguments := lit (stArgs (topSt 11))
@[reducible] noncomputable def b_11 : List Stmt := lit (stBody (topSt 11))
@[reducible] noncomputable def s_11 : Scope := lit (stScope (topSt 11))
@[reducible] noncomputable def a_12 : Arguments := lit (stArgs (topSt 12))
@[reducible] noncomputable def b_12 : List Stmt := lit (stBody (topSt 12))
@[reducible] noncomputable def s_12 : Scope := lit (stScope (topSt 12))
@[reducible] noncomputable def a_14 : Arguments := lit (stArgs (topSt 14))
@[reducible] noncomputable def b_14 : List Stmt := lit (stBody (topSt 14))
@[reducible] noncomputable def s_14 : Scope := lit (stScope (topSt 14))
noncomputable def d_14 : Str := stDoc (stBody (topSt 14))
@[reducible] noncomputable def a_15 : Arguments := lit (stArgs (topSt 15))
@[reducible] noncomputable def b_15 : List Stmt := lit (stBody (topSt 15))
@[reducible] noncomputable def s_15 : Scope := lit (stScope (topSt 15))
noncomputable def d_15 : Str := stDoc (stBody (topSt 15))
noncomputable def a_17_0 : Arguments := stArgs (subSt 17 0)
noncomputable def b_17_0 : List Stmt := stBody (subSt 17 0)
noncomputable def s_17_0 : Scope := stScope (subSt 17 0)
noncomputable def a_17_1 : Arguments := stArgs (subSt 17 1)
noncomputable def b_17_1 : List Stmt := stBody (subSt 17 1)
noncomputable def s_17_1 : Scope := stScope (subSt 17 1)
noncomputable def a_17_2 : Arguments := stArgs (subSt 17 2)
noncomputable def b_17_2 : List Stmt := stBody (subSt 17 2)
noncomputable def s_17_2 : Scope := stScope (subSt 17 2)
noncomputable def a_17_3 : Arguments := stArgs (subSt 17 3)
noncomputable def b_17_3 : List Stmt := stBody (subSt 17 3)
noncomputable def s_17_3 : Scope := stScope (subSt 17 3)
noncomputable def d_18 : Str := stDoc (stBody (topSt 18))
@[reducible] noncomputable def a_18_4 : Arguments := lit (stArgs (subSt 18 4))
@[reducible] noncomputable def b_18_4 : List Stmt := lit (stBody (subSt 18 4))
@[reducible] noncomputable def s_18_4 : Scope := lit (stScope (subSt 18 4))
noncomputable def d_18_4 : Str := stDoc (stBody (subSt 18 4))
@[reducible] noncomputable def a_18_5 : Arguments := lit (stArgs (subSt 18 5))
@[reducible] noncomputable def b_18_5 : List Stmt := lit (stBody (subSt 18 5))
@[reducible] noncomputable def s_18_5 : Scope := lit (stScope (subSt 18 5))
noncomputable def d_18_5 : Str := stDoc (stBody (subSt 18 5))
noncomputable def a_18_6 : Arguments := stArgs (subSt 18 6)
noncomputable def b_18_6 : List Stmt := stBody (subSt 18 6)
noncomputable def s_18_6 : Scope := stScope (subSt 18 6)
noncomputable def d_18_6 : Str := stDoc (stBody (subSt 18 6))
noncomputable def a_18_8 : Arguments := stArgs (subSt 18 8)
noncomputable def b_18_8 : List Stmt := stBody (subSt 18 8)
noncomputable def s_18_8 : Scope := stScope (subSt 18 8)
noncomputable def d_18_8 : Str := stDoc (stBody (subSt 18 8))
noncomputable def a_18_9 : Arguments := stArgs (subSt 18 9)
noncomputable def b_18_9 : List Stmt := stBody (subSt 18 9)
noncomputable def s_18_9 : Scope := stScope (subSt 18 9)
noncomputable def a_18_10 : Arguments := stArgs (subSt 18 10)
noncomputable def b_18_10 : List Stmt := stBody (subSt 18 10)
noncomputable def s_18_10 : Scope := stScope (subSt 18 10)
noncomputable def d_18_10 : Str := stDoc (stBody (subSt 18 10))
noncomputable def a_19 : Arguments := stArgs (topSt 19)
noncomputable def b_19 : List Stmt := stBody (topSt 19)
noncomputable def s_19 : Scope := stScope (topSt 19)
noncomputable def d_20 : Str := docN
@[reducible] noncomputable def a_20_1 : Arguments := lit (stArgs (subSt 20 1))
@[reducible] noncomputable def b_20_1 : List Stmt := lit (stBody (subSt 20 1))
@[reducible] noncomputable def s_20_1 : Scope := lit (stScope (subSt 20 1))
noncomputable def d_20_1 : Str := stDoc (stBody (subSt 20 1))
@[reducible] noncomputable def a_20_2 : Arguments := lit (stArgs (subSt 20 2))
@[reducible] noncomputable def b_20_2 : List Stmt := lit (stBody (subSt 20 2))
@[reducible] noncomputable def s_20_2 : Scope := lit (stScope (subSt 20 2))
noncomputable def d_20_2 : Str := stDoc (stBody (subSt 20 2))
@[reducible] noncomputable def a_20_3 : Arguments := lit (stArgs (subSt 20 3))
@[reducible] noncomputable def b_20_3 : List Stmt := lit (stBody (subSt 20 3))
@[reducible] noncomputable def s_20_3 : Scope := lit (stScope (subSt 20 3))
noncomputable def d_20_3 : Str := stDoc (stBody (subSt 20 3))
@[reducible] noncomputable def a_20_4 : Arguments := lit (stArgs (subSt 20 4))
@[reducible] noncomputable def b_20_4 : List Stmt := lit (stBody (subSt 20 4))
@[reducible] noncomputable def s_20_4 : Scope := lit (stScope (subSt 20 4))
noncomputable def d_20_4 : Str := stDoc (stBody (subSt 20 4))
@[reducible] noncomputable def a_20_5 : Arguments := lit (stArgs (subSt 20 5))
@[reducible] noncomputable def b_20_5 : List Stmt := lit (stBody (subSt 20 5))
@[reducible] noncomputable def s_20_5 : Scope := lit (stScope (subSt 20 5))
@[reducible] noncomputable def a_20_6 : Arguments := lit (stArgs (subSt 20 6))
@[reducible] noncomputable def b_20_6 : List Stmt := lit (stBody (subSt 20 6))
@[reducible] noncomputable def s_20_6 : Scope := lit (stScope (subSt 20 6))
noncomputable def d_20_6 : Str := stDoc (stBody (subSt 20 6))
@[reducible] noncomputable def a_20_7 : Arguments := lit (stArgs (subSt 20 7))
@[reducible] noncomputable def b_20_7 : List Stmt := lit (stBody (subSt 20 7))
@[reducible] noncomputable def s_20_7 : Scope := lit (stScope (subSt 20 7))
noncomputable def d_20_7 : Str := stDoc (stBody (subSt 20 7))
@[reducible] noncomputable def a_20_8 : Arguments := lit (stArgs (subSt 20 8))
@[reducible] noncomputable def b_20_8 : List Stmt := lit (stBody (subSt 20 8))
@[reducible] noncomputable def s_20_8 : Scope := lit (stScope (subSt 20 8))
noncomputable def d_20_8 : Str := stDoc (stBody (subSt 20 8))
noncomputable def a_20_9 : Arguments := stArgs (subSt 20 9)
noncomputable def b_20_9 : List Stmt := stBody (subSt 20 9)
noncomputable def s_20_9 : Scope := stScope (subSt 20 9)
noncomputable def a_20_10 : Arguments := stArgs (subSt 20 10)
noncomputable def b_20_10 : List Stmt := stBody (subSt 20 10)
noncomputable def s_20_10 : Scope := stScope (subSt 20 10)
noncomputable def d_20_10 : Str := stDoc (stBody (subSt 20 10))
noncomputable def a_20_11 : Arguments := stArgs (subSt 20 11)
noncomputable def b_20_11 : List Stmt := stBody (subSt 20 11)
noncomputable def s_20_11 : Scope := stScope (subSt 20 11)
noncomputable def a_20_12 : Arguments := stArgs (subSt 20 12)
noncomputable def b_20_12 : List Stmt := stBody (subSt 20 12)
noncomputable def s_20_12 : Scope := stScope (subSt 20 12)
@[reducible] noncomputable def a_22 : Arguments := lit (stArgs (topSt 22))
@[reducible] noncomputable def b_22 : List Stmt := lit (stBody (topSt 22))
@[reducible] noncomputable def s_22 : Scope := lit (stScope (topSt 22))
@[reducible] noncomputable def a_23 : Arguments := lit (stArgs (topSt 23))
@[reducible] noncomputable def b_23 : List Stmt := lit (stBody (topSt 23))
@[reducible] noncomputable def s_23 : Scope := lit (stScope (topSt 23))
@[reducible] noncomputable def a_24 : Arguments := lit (stArgs (topSt 24))
@[reducible] noncomputable def b_24 : List Stmt := lit (stBody (topSt 24))
@[reducible] noncomputable def s_24 : Scope := lit (stScope (topSt 24))
@[reducible] noncomputable def a_25 : Arguments := lit (stArgs (topSt 25))
@[reducible] noncomputable def b_25 : List Stmt := lit (stBody (topSt 25))
@[reducible] noncomputable def s_25 : Scope := lit (stScope (topSt 25))
@[reducible] noncomputable def a_26 : Arguments := lit (stArgs (topSt 26))
@[reducible] noncomputable def b_26 : List Stmt := lit (stBody (topSt 26))
@[reducible] noncomputable def s_26 : Scope := lit (stScope (topSt 26))
@[reducible] noncomputable def a_27 : Arguments := lit (stArgs (topSt 27))
@[reducible] noncomputable def b_27 : List Stmt := lit (stBody (topSt 27))
@[reducible] noncomputable def s_27 : Scope := lit (stScope (topSt 27))
@[reducible] noncomputable def a_28 : Arguments := lit (stArgs (topSt 28))
@[reducible] noncomputable def b_28 : List Stmt := lit (stBody (topSt 28))
@[reducible] noncomputable def s_28 : Scope := lit (stScope (topSt 28))
noncomputable def o_11_0 (P : Params) : Obj := tu
noncomputable def o_12_0 (P : Params) : Obj := ⟨.none, none, (.fields #[]), #[]⟩
noncomputable def o_13_0 (P : Params) : Obj := ⟨.type "code", none, (.fields (#[(q "<module>" 182), (q "<module>" 183), (q "/claim/cut.py" 184), (j 1), (j 0), (j 0), (j 0), (j 0), (.ref 11), (.bool false), (j 181), (.ref 12), .none, .none, .none, .none, (j 185), (j 1), (q "/claim/cut.py" 186)])), #[]⟩
noncomputable def o_14_0 (P : Params) : Obj := ⟨.type "frame", none, .plain, #[(some (.ref 13)), (some (.ref 3)), (some (.ref 3)), none, (some (q "__main__" 164)), none, (some (.ref 0))]⟩
noncomputable def H_pre (P : Params) : Heap := ⟨#[boot_o_0 P, boot_o_1 P, boot_o_2 P, boot_o_3 P, boot_o_4 P, boot_o_5 P, boot_o_6 P, boot_o_7 P, boot_o_8 P, boot_o_9 P, boot_o_10 P, o_11_0 P, o_12_0 P, o_13_0 P, o_14_0 P], {}⟩
noncomputable def T_pre (P : Params) : BT := (nd (boot_o_0 P) (nd (boot_o_1 P) (nd (boot_o_3 P) (lf (boot_o_7 P)) (lf (o_11_0 P))) (nd (boot_o_5 P) (lf (boot_o_9 P)) (lf (o_13_0 P)))) (nd (boot_o_2 P) (nd (boot_o_4 P) (lf (boot_o_8 P)) (lf (o_12_0 P))) (nd (boot_o_6 P) (lf (boot_o_10 P)) (lf (o_14_0 P)))))
noncomputable def S_pre (w : World) (os : OsState) : SharedT := ⟨T_pre w.params, 15, {}, #[], {}, 187, os⟩
noncomputable def T_blk (P : Params) : BT := (nd (boot_o_0 P) (nd (boot_o_1 P) (nd (boot_o_3 P) (lf (boot_o_7 P)) (lf (o_11_0 P))) (nd (boot_o_5 P) (lf (boot_o_9 P)) (lf (o_13_0 P)))) (nd (boot_o_2 P) (nd (boot_o_4 P) (lf (boot_o_8 P)) (lf (o_12_0 P))) (nd (boot_o_6 P) (lf (boot_o_10 P)) (lf (o_14_0 P)))))
noncomputable def S_blk (w : World) (os : OsState) : SharedT := ⟨T_blk w.params, 15, {}, #[], {}, 187, os⟩
noncomputable def o_3_0 (P : Params) : Obj := ⟨.type "dict", none, (.dict (#[ke P "__name__" 165 (q "binascii" 204), ke P "__doc__" 166 .none, ke P "__package__" 167 .none, ke P "__loader__" 168 (.builtin "__main__.__loader__#opaque"), ke P "__spec__" 169 .none, ke P "__annotations__" 170 (.ref 6), ke P "__builtins__" 171 (.ref 4), ke P "__file__" 173 (q "/claim/cut.py" 172), ke P "__cached__" 174 .none, ke P "_wall" 193 (.ref 21), ke P "bytes_types" 196 (.ref 22), ke P "_bytes_from_decode_data" 203 (.ref 29), ke P "Error" 223 (.ref 39), ke P "_ascii_buffer" 231 (.ref 49), ke P "_buffer" 239 (.ref 56), ke P "_truth" 247 (.ref 63), ke P "_B64" 249 (.bytes #[65, 66, 67, 68, 69, 70, 71, 72, 73, 74, 75, 76, 77, 78, 79, 80, 81, 82, 83, 84, 85, 86, 87, 88, 89, 90, 97, 98, 99, 100, 101, 102, 103, 104, 105, 106, 107, 108, 109, 110, 111, 112, 113, 114, 115, 116, 117, 118, 119, 120, 121, 122, 48, 49, 50, 51, 52, 53, 54, 55, 56, 57, 43, 47] 248)]) 17), #[]⟩
noncomputable def o_12_1 (P : Params) : Obj := ⟨.none, none, (.fields (#[(j 1), (j 0), (.ref 20), (j 6), (j 0), (.ref 28), (j 19), (j 0), (.ref 35), (j 21), (j 0), (.ref 48), (j 32), (j 0), (.ref 55), (j 39), (j 0), (.ref 62)])), #[]⟩
noncomputable def o_15_0 (P : Params) : Obj := tu
noncomputable def o_16_0 (P : Params) : Obj := ⟨.none, none, (.fields #[]), #[]⟩
noncomputable def o_17_0 (P : Params) : Obj := ⟨.type "tuple", none, (.seq (#[(q "k" 190)]) 0), #[]⟩
noncomputable def o_18_0 (P : Params) : Obj := tu
noncomputable def o_19_0 (P : Params) : Obj := ⟨.none, none, (.func { name := Str.ofString "_wall", qualname := Str.ofString "_wall", params := a_0, body := .stmts b_0, scope := s_0, globals := 0, closure := [], defaults := .none, kwdefaults := .none, doc := .none, pyModule := .none, annotations := none, code := .none, closureTuple := .none, builtins := 0 }), #[]⟩
noncomputable def o_20_0 (P : Params) : Obj := ⟨.type "code", none, (.fields (#[(q "_wall" 187), (q "_wall" 188), (q "/claim/cut.py" 189), (j 1), (j 1), (j 0), (j 0), (j 3), (.ref 15), (.bool true), (j 181), (.ref 16), .none, (.ref 17), (.ref 18), (.ref 19), (j 191), (j 1), (q "/claim/cut.py" 192)])), #[]⟩
noncomputable def o_21_0 (P : Params) : Obj := ⟨.type "function", none, (.func { name := Str.ofString "_wall", qualname := Str.ofString "_wall", params := a_0, body := .stmts b_0, scope := s_0, globals := 3, closure := [], defaults := .none, kwdefaults := .none, doc := .none, pyModule := (q "__main__" 164), annotations := none, code := (.ref 20), closureTuple := .none, builtins := 0 }), #[]⟩
noncomputable def o_22_0 (P : Params) : Obj := ⟨.type "tuple", none, (.seq (#[(.type "bytes"), (.type "bytearray")]) 0), #[]⟩
noncomputable def o_23_0 (P : Params) : Obj := tu
noncomputable def o_24_0 (P : Params) : Obj := ⟨.none, none, (.fields #[]), #[]⟩
noncomputable def o_25_0 (P : Params) : Obj := ⟨.type "tuple", none, (.seq (#[(q "s" 200)]) 0), #[]⟩
noncomputable def o_26_0 (P : Params) : Obj := tu
noncomputable def o_27_0 (P : Params) : Obj := ⟨.none, none, (.func { name := Str.ofString "_bytes_from_decode_data", qualname := Str.ofString "_bytes_from_decode_data", params := a_3, body := .stmts b_3, scope := s_3, globals := 0, closure := [], defaults := .none, kwdefaults := .none, doc := .none, pyModule := .none, annotations := none, code := .none, closureTuple := .none, builtins := 0 }), #[]⟩
noncomputable def o_28_0 (P : Params) : Obj := ⟨.type "code", none, (.fields (#[(q "_bytes_from_decode_data" 197), (q "_bytes_from_decode_data" 198), (q "/claim/cut.py" 199), (j 6), (j 1), (j 0), (j 0), (j 3), (.ref 23), (.bool true), (j 181), (.ref 24), .none, (.ref 25), (.ref 26), (.ref 27), (j 201), (j 6), (q "/claim/cut.py" 202)])), #[]⟩
noncomputable def o_29_0 (P : Params) : Obj := ⟨.type "function", none, (.func { name := Str.ofString "_bytes_from_decode_data", qualname := Str.ofString "_bytes_from_decode_data", params := a_3, body := .stmts b_3, scope := s_3, globals := 3, closure := [], defaults := .none, kwdefaults := .none, doc := .none, pyModule := (q "cpy313.base64" 194), annotations := none, code := (.ref 28), closureTuple := .none, builtins := 0 }), #[]⟩
noncomputable def o_30_0 (P : Params) : Obj := ⟨.type "tuple", none, (.seq (#[(.type "ValueError")]) 0), #[]⟩
noncomputable def o_31_0 (P : Params) : Obj := ⟨.type "builtin_function_or_method", none, (.fields (#[(.builtin "type.__prepare__"), (.type "type")])), #[]⟩
noncomputable def o_32_0 (P : Params) : Obj := ⟨.type "dict", none, (.dict (#[ke P "__module__" 213 (q "binascii" 204), ke P "__qualname__" 215 (q "Error" 214), ke P "__firstlineno__" 217 (.int (19) 216), ke P "__static_attributes__" 218 (.ref 37)]) 4), #[]⟩
noncomputable def o_33_0 (P : Params) : Obj := tu
noncomputable def o_34_0 (P : Params) : Obj := ⟨.none, none, (.fields #[]), #[]⟩
noncomputable def o_35_0 (P : Params) : Obj := ⟨.type "code", none, (.fields (#[(q "Error" 208), (q "Error" 209), (q "/claim/cut.py" 210), (j 19), (j 0), (j 0), (j 0), (j 0), (.ref 33), (.bool false), (j 181), (.ref 34), .none, .none, .none, .none, (j 211), (j 19), (q "/claim/cut.py" 212)])), #[]⟩
noncomputable def o_36_0 (P : Params) : Obj := ⟨.type "frame", none, .plain, #[(some (.ref 35)), (some (.ref 3)), (some (.ref 32)), none, (some (q "binascii" 204)), none, (some (.ref 0))]⟩
noncomputable def o_37_0 (P : Params) : Obj := tu
noncomputable def o_38_0 (P : Params) : Obj := ⟨.type "dict", none, (.dict (#[ke P "__module__" 213 (q "binascii" 204), ke P "__firstlineno__" 217 (.int (19) 216), ke P "__static_attributes__" 218 (.ref 37), ke P "__weakref__" 220 (.ref 40), ke P "__doc__" 221 .none]) 3), #[]⟩
noncomputable def o_39_0 (P : Params) : Obj := ⟨.type "type", none, (.cls { name := Str.ofString "Error", bases := [(.type "ValueError")], mro := [(.ref 39), (.type "ValueError"), (.type "Exception"), (.type "BaseException"), (.type "object")], ns := 38, qualname := Str.ofString "Error", hasDict := true, slotNames := [], subclasses := [], abstract := false, collection := none, hasDel := false }), #[(some (.ref 30)), none, (some (q "Error" 206)), (some (q "Error" 214)), (some (.builtin "ValueError.__new__")), (some (.bool true))]⟩
noncomputable def o_40_0 (P : Params) : Obj := ⟨.type "getset_descriptor", none, (.fields (#[(q "__weakref__" 219), (.ref 39), (.builtin "ExceptionGroup.__weakref__"), .none])), #[]⟩
noncomputable def o_41_0 (P : Params) : Obj := ⟨.type "super", none, (.fields (#[(.ref 39), (.ref 39), (.ref 39)])), #[]⟩
noncomputable def o_42_0 (P : Params) : Obj := ⟨.type "builtin_function_or_method", none, (.fields (#[(.builtin "object.__init_subclass__"), (.ref 39)])), #[]⟩
noncomputable def o_43_0 (P : Params) : Obj := tu
noncomputable def o_44_0 (P : Params) : Obj := ⟨.none, none, (.fields #[]), #[]⟩
noncomputable def o_45_0 (P : Params) : Obj := ⟨.type "tuple", none, (.seq (#[(q "data" 227), (q "t" 228)]) 0), #[]⟩
noncomputable def o_46_0 (P : Params) : Obj := tu
noncomputable def o_47_0 (P : Params) : Obj := ⟨.none, none, (.func { name := Str.ofString "_ascii_buffer", qualname := Str.ofString "_ascii_buffer", params := a_6, body := .stmts b_6, scope := s_6, globals := 0, closure := [], defaults := .none, kwdefaults := .none, doc := .none, pyModule := .none, annotations := none, code := .none, closureTuple := .none, builtins := 0 }), #[]⟩
noncomputable def o_48_0 (P : Params) : Obj := ⟨.type "code", none, (.fields (#[(q "_ascii_buffer" 224), (q "_ascii_buffer" 225), (q "/claim/cut.py" 226), (j 21), (j 1), (j 0), (j 0), (j 3), (.ref 43), (.bool true), (j 181), (.ref 44), .none, (.ref 45), (.ref 46), (.ref 47), (j 229), (j 21), (q "/claim/cut.py" 230)])), #[]⟩
noncomputable def o_49_0 (P : Params) : Obj := ⟨.type "function", none, (.func { name := Str.ofString "_ascii_buffer", qualname := Str.ofString "_ascii_buffer", params := a_6, body := .stmts b_6, scope := s_6, globals := 3, closure := [], defaults := .none, kwdefaults := .none, doc := .none, pyModule := (q "binascii" 204), annotations := none, code := (.ref 48), closureTuple := .none, builtins := 0 }), #[]⟩
noncomputable def o_50_0 (P : Params) : Obj := tu
noncomputable def o_51_0 (P : Params) : Obj := ⟨.none, none, (.fields #[]), #[]⟩
noncomputable def o_52_0 (P : Params) : Obj := ⟨.type "tuple", none, (.seq (#[(q "data" 235), (q "t" 236)]) 0), #[]⟩
noncomputable def o_53_0 (P : Params) : Obj := tu
noncomputable def o_54_0 (P : Params) : Obj := ⟨.none, none, (.func { name := Str.ofString "_buffer", qualname := Str.ofString "_buffer", params := a_7, body := .stmts b_7, scope := s_7, globals := 0, closure := [], defaults := .none, kwdefaults := .none, doc := .none, pyModule := .none, annotations := none, code := .none, closureTuple := .none, builtins := 0 }), #[]⟩
noncomputable def o_55_0 (P : Params) : Obj := ⟨.type "code", none, (.fields (#[(q "_buffer" 232), (q "_buffer" 233), (q "/claim/cut.py" 234), (j 32), (j 1), (j 0), (j 0), (j 3), (.ref 50), (.bool true), (j 181), (.ref 51), .none, (.ref 52), (.ref 53), (.ref 54), (j 237), (j 32), (q "/claim/cut.py" 238)])), #[]⟩
noncomputable def o_56_0 (P : Params) : Obj := ⟨.type "function", none, (.func { name := Str.ofString "_buffer", qualname := Str.ofString "_buffer", params := a_7, body := .stmts b_7, scope := s_7, globals := 3, closure := [], defaults := .none, kwdefaults := .none, doc := .none, pyModule := (q "binascii" 204), annotations := none, code := (.ref 55), closureTuple := .none, builtins := 0 }), #[]⟩
noncomputable def o_57_0 (P : Params) : Obj := tu
noncomputable def o_58_0 (P : Params) : Obj := ⟨.none, none, (.fields #[]), #[]⟩
noncomputable def o_59_0 (P : Params) : Obj := ⟨.type "tuple", none, (.seq (#[(q "x" 243), (q "t" 244)]) 0), #[]⟩
noncomputable def o_60_0 (P : Params) : Obj := tu
noncomputable def o_61_0 (P : Params) : Obj := ⟨.none, none, (.func { name := Str.ofString "_truth", qualname := Str.ofString "_truth", params := a_8, body := .stmts b_8, scope := s_8, globals := 0, closure := [], defaults := .none, kwdefaults := .none, doc := .none, pyModule := .none, annotations := none, code := .none, closureTuple := .none, builtins := 0 }), #[]⟩
noncomputable def o_62_0 (P : Params) : Obj := ⟨.type "code", none, (.fields (#[(q "_truth" 240), (q "_truth" 241), (q "/claim/cut.py" 242), (j 39), (j 1), (j 0), (j 0), (j 3), (.ref 57), (.bool true), (j 181), (.ref 58), .none, (.ref 59), (.ref 60), (.ref 61), (j 245), (j 39), (q "/claim/cut.py" 246)])), #[]⟩
noncomputable def o_63_0 (P : Params) : Obj := ⟨.type "function", none, (.func { name := Str.ofString "_truth", qualname := Str.ofString "_truth", params := a_8, body := .stmts b_8, scope := s_8, globals := 3, closure := [], defaults := .none, kwdefaults := .none, doc := .none, pyModule := (q "binascii" 204), annotations := none, code := (.ref 62), closureTuple := .none, builtins := 0 }), #[]⟩
noncomputable def T_9 (P : Params) : BT := (nd (boot_o_0 P) (nd (boot_o_1 P) (nd (o_3_0 P) (nd (boot_o_7 P) (nd (o_15_0 P) (nd (o_31_0 P) (lf (o_63_0 P)) .nil) (lf (o_47_0 P))) (nd (o_23_0 P) (lf (o_39_0 P)) (lf (o_55_0 P)))) (nd (o_11_0 P) (nd (o_19_0 P) (lf (o_35_0 P)) (lf (o_51_0 P))) (nd (o_27_0 P) (lf (o_43_0 P)) (lf (o_59_0 P))))) (nd (boot_o_5 P) (nd (boot_o_9 P) (nd (o_17_0 P) (lf (o_33_0 P)) (lf (o_49_0 P))) (nd (o_25_0 P) (lf (o_41_0 P)) (lf (o_57_0 P)))) (nd (o_13_0 P) (nd (o_21_0 P) (lf (o_37_0 P)) (lf (o_53_0 P))) (nd (o_29_0 P) (lf (o_45_0 P)) (lf (o_61_0 P)))))) (nd (boot_o_2 P) (nd (boot_o_4 P) (nd (boot_o_8 P) (nd (o_16_0 P) (lf (o_32_0 P)) (lf (o_48_0 P))) (nd (o_24_0 P) (lf (o_40_0 P)) (lf (o_56_0 P)))) (nd (o_12_1 P) (nd (o_20_0 P) (lf (o_36_0 P)) (lf (o_52_0 P))) (nd (o_28_0 P) (lf (o_44_0 P)) (lf (o_60_0 P))))) (nd (boot_o_6 P) (nd (boot_o_10 P) (nd (o_18_0 P) (lf (o_34_0 P)) (lf (o_50_0 P))) (nd (o_26_0 P) (lf (o_42_0 P)) (lf (o_58_0 P)))) (nd (o_14_0 P) (nd (o_22_0 P) (lf (o_38_0 P)) (lf (o_54_0 P))) (nd (o_30_0 P) (lf (o_46_0 P)) (lf (o_62_0 P)))))))
noncomputable def S_9 (w : World) (os : OsState) : SharedT := ⟨T_9 w.params, 64, {}, #[], {}, 250, os⟩
noncomputable def o_3_1 (P : Params) : Obj := ⟨.type "dict", none, (.dict (#[ke P "__name__" 165 (q "cpy313.difflib" 309), ke P "__doc__" 166 .none, ke P "__package__" 167 .none, ke P "__loader__" 168 (.builtin "__main__.__loader__#opaque"), ke P "__spec__" 169 .none, ke P "__annotations__" 170 (.ref 6), ke P "__builtins__" 171 (.ref 4), ke P "__file__" 173 (q "/claim/cut.py" 172), ke P "__cached__" 174 .none, ke P "_wall" 193 (.ref 21), ke P "bytes_types" 196 (.ref 22), ke P "_bytes_from_decode_data" 203 (.ref 29), ke P "Error" 223 (.ref 39), ke P "_ascii_buffer" 231 (.ref 49), ke P "_buffer" 239 (.ref 56), ke P "_truth" 247 (.ref 63), ke P "_B64" 249 (.bytes #[65, 66, 67, 68, 69, 70, 71, 72, 73, 74, 75, 76, 77, 78, 79, 80, 81, 82, 83, 84, 85, 86, 87, 88, 89, 90, 97, 98, 99, 100, 101, 102, 103, 104, 105, 106, 107, 108, 109, 110, 111, 112, 113, 114, 115, 116, 117, 118, 119, 120, 121, 122, 48, 49, 50, 51, 52, 53, 54, 55, 56, 57, 43, 47] 248), ke P "_b64_value" 256 (.ref 70), ke P "a2b_base64" 272 (.ref 78), ke P "b2a_base64" 286 (.ref 86), ke P "b64encode" 298 (.ref 94), ke P "b64decode" 308 (.ref 102)]) 22), #[]⟩
noncomputable def o_12_2 (P : Params) : Obj := ⟨.none, none, (.fields (#[(j 1), (j 0), (.ref 20), (j 6), (j 0), (.ref 28), (j 19), (j 0), (.ref 35), (j 21), (j 0), (.ref 48), (j 32), (j 0), (.ref 55), (j 39), (j 0), (.ref 62), (j 45), (j 0), (.ref 69), (j 57), (j 0), (.ref 77), (j 111), (j 0), (.ref 85), (j 134), (j 0), (.ref 93), (j 146), (j 0), (.ref 101)])), #[]⟩
noncomputable def o_64_0 (P : Params) : Obj := tu
noncomputable def o_65_0 (P : Params) : Obj := ⟨.none, none, (.fields #[]), #[]⟩
noncomputable def o_66_0 (P : Params) : Obj := ⟨.type "tuple", none, (.seq (#[(q "c" 253)]) 0), #[]⟩
noncomputable def o_67_0 (P : Params) : Obj := tu
noncomputable def o_68_0 (P : Params) : Obj := ⟨.none, none, (.func { name := Str.ofString "_b64_value", qualname := Str.ofString "_b64_value", params := a_10, body := .stmts b_10, scope := s_10, globals := 0, closure := [], defaults := .none, kwdefaults := .none, doc := .none, pyModule := .none, annotations := none, code := .none, closureTuple := .none, builtins := 0 }), #[]⟩
noncomputable def o_69_0 (P : Params) : Obj := ⟨.type "code", none, (.fields (#[(q "_b64_value" 250), (q "_b64_value" 251), (q "/claim/cut.py" 252), (j 45), (j 1), (j 0), (j 0), (j 3), (.ref 64), (.bool true), (j 181), (.ref 65), .none, (.ref 66), (.ref 67), (.ref 68), (j 254), (j 45), (q "/claim/cut.py" 255)])), #[]⟩
noncomputable def o_70_0 (P : Params) : Obj := ⟨.type "function", none, (.func { name := Str.ofString "_b64_value", qualname := Str.ofString "_b64_value", params := a_10, body := .stmts b_10, scope := s_10, globals := 3, closure := [], defaults := .none, kwdefaults := .none, doc := .none, pyModule := (q "binascii" 204), annotations := none, code := (.ref 69), closureTuple := .none, builtins := 0 }), #[]⟩
noncomputable def o_71_0 (P : Params) : Obj := ⟨.type "dict", none, (.dict (#[ke P "strict_mode" 257 (.bool false)]) 1), #[]⟩
noncomputable def o_72_0 (P : Params) : Obj := tu
noncomputable def o_73_0 (P : Params) : Obj := ⟨.none, none, (.fields #[]), #[]⟩
noncomputable def o_74_0 (P : Params) : Obj := ⟨.type "tuple", none, (.seq (#[(q "data" 261), (q "strict_mode" 262), (q "ascii_data" 263), (q "out" 264), (q "quad_pos" 265), (q "leftchar" 266), (q "pads" 267), (q "i" 268), (q "this_ch" 269)]) 0), #[]⟩
noncomputable def o_75_0 (P : Params) : Obj := tu
noncomputable def o_76_0 (P : Params) : Obj := ⟨.none, none, (.func { name := Str.ofString "a2b_base64", qualname := Str.ofString "a2b_base64", params := a_11, body := .stmts b_11, scope := s_11, globals := 0, closure := [], defaults := .none, kwdefaults := .none, doc := .none, pyModule := .none, annotations := none, code := .none, closureTuple := .none, builtins := 0 }), #[]⟩
noncomputable def o_77_0 (P : Params) : Obj := ⟨.type "code", none, (.fields (#[(q "a2b_base64" 258), (q "a2b_base64" 259), (q "/claim/cut.py" 260), (j 57), (j 1), (j 1), (j 1), (j 3), (.ref 72), (.bool true), (j 181), (.ref 73), .none, (.ref 74), (.ref 75), (.ref 76), (j 270), (j 57), (q "/claim/cut.py" 271)])), #[]⟩
noncomputable def o_78_0 (P : Params) : Obj := ⟨.type "function", none, (.func { name := Str.ofString "a2b_base64", qualname := Str.ofString "a2b_base64", params := a_11, body := .stmts b_11, scope := s_11, globals := 3, closure := [], defaults := .none, kwdefaults := (.ref 71), doc := .none, pyModule := (q "binascii" 204), annotations := none, code := (.ref 77), closureTuple := .none, builtins := 0 }), #[]⟩
noncomputable def o_79_0 (P : Params) : Obj := ⟨.type "dict", none, (.dict (#[ke P "newline" 273 (.bool true)]) 1), #[]⟩
noncomputable def o_80_0 (P : Params) : Obj := tu
noncomputable def o_81_0 (P : Params) : Obj := ⟨.none, none, (.fields #[]), #[]⟩
noncomputable def o_82_0 (P : Params) : Obj := ⟨.type "tuple", none, (.seq (#[(q "data" 277), (q "newline" 278), (q "bin_data" 279), (q "out" 280), (q "leftbits" 281), (q "leftchar" 282), (q "b" 283)]) 0), #[]⟩
noncomputable def o_83_0 (P : Params) : Obj := tu
noncomputable def o_84_0 (P : Params) : Obj := ⟨.none, none, (.func { name := Str.ofString "b2a_base64", qualname := Str.ofString "b2a_base64", params := a_12, body := .stmts b_12, scope := s_12, globals := 0, closure := [], defaults := .none, kwdefaults := .none, doc := .none, pyModule := .none, annotations := none, code := .none, closureTuple := .none, builtins := 0 }), #[]⟩
noncomputable def o_85_0 (P : Params) : Obj := ⟨.type "code", none, (.fields (#[(q "b2a_base64" 274), (q "b2a_base64" 275), (q "/claim/cut.py" 276), (j 111), (j 1), (j 1), (j 1), (j 3), (.ref 80), (.bool true), (j 181), (.ref 81), .none, (.ref 82), (.ref 83), (.ref 84), (j 284), (j 111), (q "/claim/cut.py" 285)])), #[]⟩
noncomputable def o_86_0 (P : Params) : Obj := ⟨.type "function", none, (.func { name := Str.ofString "b2a_base64", qualname := Str.ofString "b2a_base64", params := a_12, body := .stmts b_12, scope := s_12, globals := 3, closure := [], defaults := .none, kwdefaults := (.ref 79), doc := .none, pyModule := (q "binascii" 204), annotations := none, code := (.ref 85), closureTuple := .none, builtins := 0 }), #[]⟩
noncomputable def o_87_0 (P : Params) : Obj := ⟨.type "tuple", none, (.seq (#[.none]) 0), #[]⟩
noncomputable def o_88_0 (P : Params) : Obj := tu
noncomputable def o_89_0 (P : Params) : Obj := ⟨.none, none, (.fields #[]), #[]⟩
noncomputable def o_90_0 (P : Params) : Obj := ⟨.type "tuple", none, (.seq (#[(q "s" 292), (q "altchars" 293), (q "encoded" 294)]) 0), #[]⟩
noncomputable def o_91_0 (P : Params) : Obj := tu
noncomputable def o_92_0 (P : Params) : Obj := ⟨.none, none, (.func { name := Str.ofString "b64encode", qualname := Str.ofString "b64encode", params := a_14, body := .stmts b_14, scope := s_14, globals := 0, closure := [], defaults := .none, kwdefaults := .none, doc := .none, pyModule := .none, annotations := none, code := .none, closureTuple := .none, builtins := 0 }), #[]⟩
noncomputable def o_93_0 (P : Params) : Obj := ⟨.type "code", none, (.fields (#[(q "b64encode" 289), (q "b64encode" 290), (q "/claim/cut.py" 291), (j 134), (j 2), (j 0), (j 0), (j 3), (.ref 88), (.bool true), (j 181), (.ref 89), .none, (.ref 90), (.ref 91), (.ref 92), (j 295), (j 134), (q "/claim/cut.py" 296)])), #[]⟩
noncomputable def o_94_0 (P : Params) : Obj := ⟨.type "function", none, (.func { name := Str.ofString "b64encode", qualname := Str.ofString "b64encode", params := a_14, body := .stmts b_14, scope := s_14, globals := 3, closure := [], defaults := (.ref 87), kwdefaults := .none, doc := (.str d_14 297), pyModule := (q "cpy313.base64" 287), annotations := none, code := (.ref 93), closureTuple := .none, builtins := 0 }), #[]⟩
noncomputable def o_95_0 (P : Params) : Obj := ⟨.type "tuple", none, (.seq (#[.none, (.bool false)]) 0), #[]⟩
noncomputable def o_96_0 (P : Params) : Obj := tu
noncomputable def o_97_0 (P : Params) : Obj := ⟨.none, none, (.fields #[]), #[]⟩
noncomputable def o_98_0 (P : Params) : Obj := ⟨.type "tuple", none, (.seq (#[(q "s" 302), (q "altchars" 303), (q "validate" 304)]) 0), #[]⟩
noncomputable def o_99_0 (P : Params) : Obj := tu
noncomputable def o_100_0 (P : Params) : Obj := ⟨.none, none, (.func { name := Str.ofString "b64decode", qualname := Str.ofString "b64decode", params := a_15, body := .stmts b_15, scope := s_15, globals := 0, closure := [], defaults := .none, kwdefaults := .none, doc := .none, pyModule := .none, annotations := none, code := .none, closureTuple := .none, builtins := 0 }), #[]⟩
noncomputable def o_101_0 (P : Params) : Obj := ⟨.type "code", none, (.fields (#[(q "b64decode" 299), (q "b64decode" 300), (q "/claim/cut.py" 301), (j 146), (j 3), (j 0), (j 0), (j 3), (.ref 96), (.bool true), (j 181), (.ref 97), .none, (.ref 98), (.ref 99), (.ref 100), (j 305), (j 146), (q "/claim/cut.py" 306)])), #[]⟩
noncomputable def o_102_0 (P : Params) : Obj := ⟨.type "function", none, (.func { name := Str.ofString "b64decode", qualname := Str.ofString "b64decode", params := a_15, body := .stmts b_15, scope := s_15, globals := 3, closure := [], defaults := (.ref 95), kwdefaults := .none, doc := (.str d_15 307), pyModule := (q "cpy313.base64" 287), annotations := none, code := (.ref 101), closureTuple := .none, builtins := 0 }), #[]⟩
noncomputable def T_16 (P : Params) : BT := (nd (boot_o_0 P) (nd (boot_o_1 P) (nd (o_3_1 P) (nd (boot_o_7 P) (nd (o_15_0 P) (nd (o_31_0 P) (lf (o_63_0 P)) (lf (o_95_0 P))) (nd (o_47_0 P) (lf (o_79_0 P)) .nil)) (nd (o_23_0 P) (nd (o_39_0 P) (lf (o_71_0 P)) .nil) (nd (o_55_0 P) (lf (o_87_0 P)) .nil))) (nd (o_11_0 P) (nd (o_19_0 P) (nd (o_35_0 P) (lf (o_67_0 P)) (lf (o_99_0 P))) (nd (o_51_0 P) (lf (o_83_0 P)) .nil)) (nd (o_27_0 P) (nd (o_43_0 P) (lf (o_75_0 P)) .nil) (nd (o_59_0 P) (lf (o_91_0 P)) .nil)))) (nd (boot_o_5 P) (nd (boot_o_9 P) (nd (o_17_0 P) (nd (o_33_0 P) (lf (o_65_0 P)) (lf (o_97_0 P))) (nd (o_49_0 P) (lf (o_81_0 P)) .nil)) (nd (o_25_0 P) (nd (o_41_0 P) (lf (o_73_0 P)) .nil) (nd (o_57_0 P) (lf (o_89_0 P)) .nil))) (nd (o_13_0 P) (nd (o_21_0 P) (nd (o_37_0 P) (lf (o_69_0 P)) (lf (o_101_0 P))) (nd (o_53_0 P) (lf (o_85_0 P)) .nil)) (nd (o_29_0 P) (nd (o_45_0 P) (lf (o_77_0 P)) .nil) (nd (o_61_0 P) (lf (o_93_0 P)) .nil))))) (nd (boot_o_2 P) (nd (boot_o_4 P) (nd (boot_o_8 P) (nd (o_16_0 P) (nd (o_32_0 P) (lf (o_64_0 P)) (lf (o_96_0 P))) (nd (o_48_0 P) (lf (o_80_0 P)) .nil)) (nd (o_24_0 P) (nd (o_40_0 P) (lf (o_72_0 P)) .nil) (nd (o_56_0 P) (lf (o_88_0 P)) .nil))) (nd (o_12_2 P) (nd (o_20_0 P) (nd (o_36_0 P) (lf (o_68_0 P)) (lf (o_100_0 P))) (nd (o_52_0 P) (lf (o_84_0 P)) .nil)) (nd (o_28_0 P) (nd (o_44_0 P) (lf (o_76_0 P)) .nil) (nd (o_60_0 P) (lf (o_92_0 P)) .nil)))) (nd (boot_o_6 P) (nd (boot_o_10 P) (nd (o_18_0 P) (nd (o_34_0 P) (lf (o_66_0 P)) (lf (o_98_0 P))) (nd (o_50_0 P) (lf (o_82_0 P)) .nil)) (nd (o_26_0 P) (nd (o_42_0 P) (lf (o_74_0 P)) .nil) (nd (o_58_0 P) (lf (o_90_0 P)) .nil))) (nd (o_14_0 P) (nd (o_22_0 P) (nd (o_38_0 P) (lf (o_70_0 P)) (lf (o_102_0 P))) (nd (o_54_0 P) (lf (o_86_0 P)) .nil)) (nd (o_30_0 P) (nd (o_46_0 P) (lf (o_78_0 P)) .nil) (nd (o_62_0 P) (lf (o_94_0 P)) .nil))))))
noncomputable def S_16 (w : World) (os : OsState) : SharedT := ⟨T_16 w.params, 103, {}, #[], {}, 311, os⟩
noncomputable def o_3_2 (P : Params) : Obj := ⟨.type "dict", none, (.dict (#[ke P "__name__" 165 (q "cpy313.difflib" 309), ke P "__doc__" 166 .none, ke P "__package__" 167 .none, ke P "__loader__" 168 (.builtin "__main__.__loader__#opaque"), ke P "__spec__" 169 .none, ke P "__annotations__" 170 (.ref 6), ke P "__builtins__" 171 (.ref 4), ke P "__file__" 173 (q "/claim/cut.py" 172), ke P "__cached__" 174 .none, ke P "_wall" 193 (.ref 21), ke P "bytes_types" 196 (.ref 22), ke P "_bytes_from_decode_data" 203 (.ref 29), ke P "Error" 223 (.ref 39), ke P "_ascii_buffer" 231 (.ref 49), ke P "_buffer" 239 (.ref 56), ke P "_truth" 247 (.ref 63), ke P "_B64" 249 (.bytes #[65, 66, 67, 68, 69, 70, 71, 72, 73, 74, 75, 76, 77, 78, 79, 80, 81, 82, 83, 84, 85, 86, 87, 88, 89, 90, 97, 98, 99, 100, 101, 102, 103, 104, 105, 106, 107, 108, 109, 110, 111, 112, 113, 114, 115, 116, 117, 118, 119, 120, 121, 122, 48, 49, 50, 51, 52, 53, 54, 55, 56, 57, 43, 47] 248), ke P "_b64_value" 256 (.ref 70), ke P "a2b_base64" 272 (.ref 78), ke P "b2a_base64" 286 (.ref 86), ke P "b64encode" 298 (.ref 94), ke P "b64decode" 308 (.ref 102), ke P "_tuplegetter" 367 (.ref 141)]) 23), #[]⟩
noncomputable def o_12_3 (P : Params) : Obj := ⟨.none, none, (.fields (#[(j 1), (j 0), (.ref 20), (j 6), (j 0), (.ref 28), (j 19), (j 0), (.ref 35), (j 21), (j 0), (.ref 48), (j 32), (j 0), (.ref 55), (j 39), (j 0), (.ref 62), (j 45), (j 0), (.ref 69), (j 57), (j 0), (.ref 77), (j 111), (j 0), (.ref 85), (j 134), (j 0), (.ref 93), (j 146), (j 0), (.ref 101), (j 171), (j 0), (.ref 108)])), #[]⟩
noncomputable def o_103_0 (P : Params) : Obj := tu
noncomputable def o_104_0 (P : Params) : Obj := ⟨.type "builtin_function_or_method", none, (.fields (#[(.builtin "type.__prepare__"), (.type "type")])), #[]⟩
noncomputable def o_105_0 (P : Params) : Obj := ⟨.type "dict", none, (.dict (#[ke P "__module__" 318 (q "cpy313.difflib" 309), ke P "__qualname__" 320 (q "_tuplegetter" 319), ke P "__firstlineno__" 322 (.int (171) 321), ke P "__init__" 331 (.ref 116), ke P "__get__" 340 (.ref 124), ke P "__set__" 349 (.ref 131), ke P "__delete__" 357 (.ref 138), ke P "__static_attributes__" 360 (.ref 139)]) 8), #[]⟩
noncomputable def o_106_0 (P : Params) : Obj := tu
noncomputable def o_107_0 (P : Params) : Obj := ⟨.none, none, (.fields (#[(j 173), (j 4), (.ref 115), (j 177), (j 4), (.ref 123), (j 184), (j 4), (.ref 130), (j 187), (j 4), (.ref 137)])), #[]⟩
noncomputable def o_108_0 (P : Params) : Obj := ⟨.type "code", none, (.fields (#[(q "_tuplegetter" 313), (q "_tuplegetter" 314), (q "/claim/cut.py" 315), (j 171), (j 0), (j 0), (j 0), (j 0), (.ref 106), (.bool false), (j 181), (.ref 107), .none, .none, .none, .none, (j 316), (j 171), (q "/claim/cut.py" 317)])), #[]⟩
noncomputable def o_109_0 (P : Params) : Obj := ⟨.type "frame", none, .plain, #[(some (.ref 108)), (some (.ref 3)), (some (.ref 105)), none, (some (q "cpy313.difflib" 309)), none, (some (.ref 0))]⟩
noncomputable def o_110_0 (P : Params) : Obj := tu
noncomputable def o_111_0 (P : Params) : Obj := ⟨.none, none, (.fields #[]), #[]⟩
noncomputable def o_112_0 (P : Params) : Obj := ⟨.type "tuple", none, (.seq (#[(q "self" 326), (q "index" 327), (q "doc" 328)]) 0), #[]⟩
noncomputable def o_113_0 (P : Params) : Obj := tu
noncomputable def o_114_0 (P : Params) : Obj := ⟨.none, none, (.func { name := Str.ofString "__init__", qualname := Str.ofString "_tuplegetter.__init__", params := a_17_0, body := .stmts b_17_0, scope := s_17_0, globals := 0, closure := [], defaults := .none, kwdefaults := .none, doc := .none, pyModule := .none, annotations := none, code := .none, closureTuple := .none, builtins := 0 }), #[]⟩
noncomputable def o_115_0 (P : Params) : Obj := ⟨.type "code", none, (.fields (#[(q "__init__" 323), (q "_tuplegetter.__init__" 324), (q "/claim/cut.py" 325), (j 173), (j 3), (j 0), (j 0), (j 3), (.ref 110), (.bool true), (j 181), (.ref 111), .none, (.ref 112), (.ref 113), (.ref 114), (j 329), (j 173), (q "/claim/cut.py" 330)])), #[]⟩
noncomputable def o_116_0 (P : Params) : Obj := ⟨.type "function", none, (.func { name := Str.ofString "__init__", qualname := Str.ofString "_tuplegetter.__init__", params := a_17_0, body := .stmts b_17_0, scope := s_17_0, globals := 3, closure := [], defaults := .none, kwdefaults := .none, doc := .none, pyModule := (q "cpy313.difflib" 309), annotations := none, code := (.ref 115), closureTuple := .none, builtins := 0 }), #[]⟩
noncomputable def o_117_0 (P : Params) : Obj := ⟨.type "tuple", none, (.seq (#[.none]) 0), #[]⟩
noncomputable def o_118_0 (P : Params) : Obj := tu
noncomputable def o_119_0 (P : Params) : Obj := ⟨.none, none, (.fields #[]), #[]⟩
noncomputable def o_120_0 (P : Params) : Obj := ⟨.type "tuple", none, (.seq (#[(q "self" 335), (q "obj" 336), (q "objtype" 337)]) 0), #[]⟩
noncomputable def o_121_0 (P : Params) : Obj := tu
noncomputable def o_122_0 (P : Params) : Obj := ⟨.none, none, (.func { name := Str.ofString "__get__", qualname := Str.ofString "_tuplegetter.__get__", params := a_17_1, body := .stmts b_17_1, scope := s_17_1, globals := 0, closure := [], defaults := .none, kwdefaults := .none, doc := .none, pyModule := .none, annotations := none, code := .none, closureTuple := .none, builtins := 0 }), #[]⟩
noncomputable def o_123_0 (P : Params) : Obj := ⟨.type "code", none, (.fields (#[(q "__get__" 332), (q "_tuplegetter.__get__" 333), (q "/claim/cut.py" 334), (j 177), (j 3), (j 0), (j 0), (j 3), (.ref 118), (.bool true), (j 181), (.ref 119), .none, (.ref 120), (.ref 121), (.ref 122), (j 338), (j 177), (q "/claim/cut.py" 339)])), #[]⟩
noncomputable def o_124_0 (P : Params) : Obj := ⟨.type "function", none, (.func { name := Str.ofString "__get__", qualname := Str.ofString "_tuplegetter.__get__", params := a_17_1, body := .stmts b_17_1, scope := s_17_1, globals := 3, closure := [], defaults := (.ref 117), kwdefaults := .none, doc := .none, pyModule := (q "cpy313.difflib" 309), annotations := none, code := (.ref 123), closureTuple := .none, builtins := 0 }), #[]⟩
noncomputable def o_125_0 (P : Params) : Obj := tu
noncomputable def o_126_0 (P : Params) : Obj := ⟨.none, none, (.fields #[]), #[]⟩
noncomputable def o_127_0 (P : Params) : Obj := ⟨.type "tuple", none, (.seq (#[(q "self" 344), (q "obj" 345), (q "value" 346)]) 0), #[]⟩
noncomputable def o_128_0 (P : Params) : Obj := tu
noncomputable def o_129_0 (P : Params) : Obj := ⟨.none, none, (.func { name := Str.ofString "__set__", qualname := Str.ofString "_tuplegetter.__set__", params := a_17_2, body := .stmts b_17_2, scope := s_17_2, globals := 0, closure := [], defaults := .none, kwdefaults := .none, doc := .none, pyModule := .none, annotations := none, code := .none, closureTuple := .none, builtins := 0 }), #[]⟩
noncomputable def o_130_0 (P : Params) : Obj := ⟨.type "code", none, (.fields (#[(q "__set__" 341), (q "_tuplegetter.__set__" 342), (q "/claim/cut.py" 343), (j 184), (j 3), (j 0), (j 0), (j 3), (.ref 125), (.bool true), (j 181), (.ref 126), .none, (.ref 127), (.ref 128), (.ref 129), (j 347), (j 184), (q "/claim/cut.py" 348)])), #[]⟩
noncomputable def o_131_0 (P : Params) : Obj := ⟨.type "function", none, (.func { name := Str.ofString "__set__", qualname := Str.ofString "_tuplegetter.__set__", params := a_17_2, body := .stmts b_17_2, scope := s_17_2, globals := 3, closure := [], defaults := .none, kwdefaults := .none, doc := .none, pyModule := (q "cpy313.difflib" 309), annotations := none, code := (.ref 130), closureTuple := .none, builtins := 0 }), #[]⟩
noncomputable def o_132_0 (P : Params) : Obj := tu
noncomputable def o_133_0 (P : Params) : Obj := ⟨.none, none, (.fields #[]), #[]⟩
noncomputable def o_134_0 (P : Params) : Obj := ⟨.type "tuple", none, (.seq (#[(q "self" 353), (q "obj" 354)]) 0), #[]⟩
noncomputable def o_135_0 (P : Params) : Obj := tu
noncomputable def o_136_0 (P : Params) : Obj := ⟨.none, none, (.func { name := Str.ofString "__delete__", qualname := Str.ofString "_tuplegetter.__delete__", params := a_17_3, body := .stmts b_17_3, scope := s_17_3, globals := 0, closure := [], defaults := .none, kwdefaults := .none, doc := .none, pyModule := .none, annotations := none, code := .none, closureTuple := .none, builtins := 0 }), #[]⟩
noncomputable def o_137_0 (P : Params) : Obj := ⟨.type "code", none, (.fields (#[(q "__delete__" 350), (q "_tuplegetter.__delete__" 351), (q "/claim/cut.py" 352), (j 187), (j 2), (j 0), (j 0), (j 3), (.ref 132), (.bool true), (j 181), (.ref 133), .none, (.ref 134), (.ref 135), (.ref 136), (j 355), (j 187), (q "/claim/cut.py" 356)])), #[]⟩
noncomputable def o_138_0 (P : Params) : Obj := ⟨.type "function", none, (.func { name := Str.ofString "__delete__", qualname := Str.ofString "_tuplegetter.__delete__", params := a_17_3, body := .stmts b_17_3, scope := s_17_3, globals := 3, closure := [], defaults := .none, kwdefaults := .none, doc := .none, pyModule := (q "cpy313.difflib" 309), annotations := none, code := (.ref 137), closureTuple := .none, builtins := 0 }), #[]⟩
noncomputable def o_139_0 (P : Params) : Obj := ⟨.type "tuple", none, (.seq (#[(q "__doc__" 358), (q "index" 359)]) 0), #[]⟩
noncomputable def o_140_0 (P : Params) : Obj := ⟨.type "dict", none, (.dict (#[ke P "__module__" 318 (q "cpy313.difflib" 309), ke P "__firstlineno__" 322 (.int (171) 321), ke P "__init__" 331 (.ref 116), ke P "__get__" 340 (.ref 124), ke P "__set__" 349 (.ref 131), ke P "__delete__" 357 (.ref 138), ke P "__static_attributes__" 360 (.ref 139), ke P "__dict__" 362 (.ref 142), ke P "__weakref__" 364 (.ref 143), ke P "__doc__" 365 .none]) 4), #[]⟩
noncomputable def o_141_0 (P : Params) : Obj := ⟨.type "type", none, (.cls { name := Str.ofString "_tuplegetter", bases := [(.type "object")], mro := [(.ref 141), (.type "object")], ns := 140, qualname := Str.ofString "_tuplegetter", hasDict := true, slotNames := [], subclasses := [], abstract := false, collection := none, hasDel := false }), #[none, none, (some (q "_tuplegetter" 311)), (some (q "_tuplegetter" 319)), (some (.builtin "object.__new__")), (some (.bool true))]⟩
noncomputable def o_142_0 (P : Params) : Obj := ⟨.type "getset_descriptor", none, (.fields (#[(q "__dict__" 361), (.ref 141), (.builtin "function.__dict__"), (.builtin "function.__dict__#set")])), #[]⟩
noncomputable def o_143_0 (P : Params) : Obj := ⟨.type "getset_descriptor", none, (.fields (#[(q "__weakref__" 363), (.ref 141), (.builtin "ExceptionGroup.__weakref__"), .none])), #[]⟩
noncomputable def o_144_0 (P : Params) : Obj := ⟨.type "super", none, (.fields (#[(.ref 141), (.ref 141), (.ref 141)])), #[]⟩
noncomputable def o_145_0 (P : Params) : Obj := ⟨.type "builtin_function_or_method", none, (.fields (#[(.builtin "object.__init_subclass__"), (.ref 141)])), #[]⟩
noncomputable def T_17 (P : Params) : BT := (nd (boot_o_0 P) (nd (boot_o_1 P) (nd (o_3_2 P) (nd (boot_o_7 P) (nd (o_15_0 P) (nd (o_31_0 P) (nd (o_63_0 P) (lf (o_127_0 P)) .nil) (lf (o_95_0 P))) (nd (o_47_0 P) (nd (o_79_0 P) (lf (o_143_0 P)) .nil) (lf (o_111_0 P)))) (nd (o_23_0 P) (nd (o_39_0 P) (nd (o_71_0 P) (lf (o_135_0 P)) .nil) (lf (o_103_0 P))) (nd (o_55_0 P) (lf (o_87_0 P)) (lf (o_119_0 P))))) (nd (o_11_0 P) (nd (o_19_0 P) (nd (o_35_0 P) (nd (o_67_0 P) (lf (o_131_0 P)) .nil) (lf (o_99_0 P))) (nd (o_51_0 P) (lf (o_83_0 P)) (lf (o_115_0 P)))) (nd (o_27_0 P) (nd (o_43_0 P) (nd (o_75_0 P) (lf (o_139_0 P)) .nil) (lf (o_107_0 P))) (nd (o_59_0 P) (lf (o_91_0 P)) (lf (o_123_0 P)))))) (nd (boot_o_5 P) (nd (boot_o_9 P) (nd (o_17_0 P) (nd (o_33_0 P) (nd (o_65_0 P) (lf (o_129_0 P)) .nil) (lf (o_97_0 P))) (nd (o_49_0 P) (nd (o_81_0 P) (lf (o_145_0 P)) .nil) (lf (o_113_0 P)))) (nd (o_25_0 P) (nd (o_41_0 P) (nd (o_73_0 P) (lf (o_137_0 P)) .nil) (lf (o_105_0 P))) (nd (o_57_0 P) (lf (o_89_0 P)) (lf (o_121_0 P))))) (nd (o_13_0 P) (nd (o_21_0 P) (nd (o_37_0 P) (nd (o_69_0 P) (lf (o_133_0 P)) .nil) (lf (o_101_0 P))) (nd (o_53_0 P) (lf (o_85_0 P)) (lf (o_117_0 P)))) (nd (o_29_0 P) (nd (o_45_0 P) (nd (o_77_0 P) (lf (o_141_0 P)) .nil) (lf (o_109_0 P))) (nd (o_61_0 P) (lf (o_93_0 P)) (lf (o_125_0 P))))))) (nd (boot_o_2 P) (nd (boot_o_4 P) (nd (boot_o_8 P) (nd (o_16_0 P) (nd (o_32_0 P) (nd (o_64_0 P) (lf (o_128_0 P)) .nil) (lf (o_96_0 P))) (nd (o_48_0 P) (nd (o_80_0 P) (lf (o_144_0 P)) .nil) (lf (o_112_0 P)))) (nd (o_24_0 P) (nd (o_40_0 P) (nd (o_72_0 P) (lf (o_136_0 P)) .nil) (lf (o_104_0 P))) (nd (o_56_0 P) (lf (o_88_0 P)) (lf (o_120_0 P))))) (nd (o_12_3 P) (nd (o_20_0 P) (nd (o_36_0 P) (nd (o_68_0 P) (lf (o_132_0 P)) .nil) (lf (o_100_0 P))) (nd (o_52_0 P) (lf (o_84_0 P)) (lf (o_116_0 P)))) (nd (o_28_0 P) (nd (o_44_0 P) (nd (o_76_0 P) (lf (o_140_0 P)) .nil) (lf (o_108_0 P))) (nd (o_60_0 P) (lf (o_92_0 P)) (lf (o_124_0 P)))))) (nd (boot_o_6 P) (nd (boot_o_10 P) (nd (o_18_0 P) (nd (o_34_0 P) (nd (o_66_0 P) (lf (o_130_0 P)) .nil) (lf (o_98_0 P))) (nd (o_50_0 P) (lf (o_82_0 P)) (lf (o_114_0 P)))) (nd (o_26_0 P) (nd (o_42_0 P) (nd (o_74_0 P) (lf (o_138_0 P)) .nil) (lf (o_106_0 P))) (nd (o_58_0 P) (lf (o_90_0 P)) (lf (o_122_0 P))))) (nd (o_14_0 P) (nd (o_22_0 P) (nd (o_38_0 P) (nd (o_70_0 P) (lf (o_134_0 P)) .nil) (lf (o_102_0 P))) (nd (o_54_0 P) (lf (o_86_0 P)) (lf (o_118_0 P)))) (nd (o_30_0 P) (nd (o_46_0 P) (nd (o_78_0 P) (lf (o_142_0 P)) .nil) (lf (o_110_0 P))) (nd (o_62_0 P) (lf (o_94_0 P)) (lf (o_126_0 P))))))))
noncomputable def S_17 (w : World) (os : OsState) : SharedT := ⟨T_17 w.params, 146, {}, #[], {}, 368, os⟩
noncomputable def o_3_3 (P : Params) : Obj := ⟨.type "dict", none, (.dict (#[ke P "__name__" 165 (q "cpy313.difflib" 309), ke P "__doc__" 166 .none, ke P "__package__" 167 .none, ke P "__loader__" 168 (.builtin "__main__.__loader__#opaque"), ke P "__spec__" 169 .none, ke P "__annotations__" 170 (.ref 6), ke P "__builtins__" 171 (.ref 4), ke P "__file__" 173 (q "/claim/cut.py" 172), ke P "__cached__" 174 .none, ke P "_wall" 193 (.ref 21), ke P "bytes_types" 196 (.ref 22), ke P "_bytes_from_decode_data" 203 (.ref 29), ke P "Error" 223 (.ref 39), ke P "_ascii_buffer" 231 (.ref 49), ke P "_buffer" 239 (.ref 56), ke P "_truth" 247 (.ref 63), ke P "_B64" 249 (.bytes #[65, 66, 67, 68, 69, 70, 71, 72, 73, 74, 75, 76, 77, 78, 79, 80, 81, 82, 83, 84, 85, 86, 87, 88, 89, 90, 97, 98, 99, 100, 101, 102, 103, 104, 105, 106, 107, 108, 109, 110, 111, 112, 113, 114, 115, 116, 117, 118, 119, 120, 121, 122, 48, 49, 50, 51, 52, 53, 54, 55, 56, 57, 43, 47] 248), ke P "_b64_value" 256 (.ref 70), ke P "a2b_base64" 272 (.ref 78), ke P "b2a_base64" 286 (.ref 86), ke P "b64encode" 298 (.ref 94), ke P "b64decode" 308 (.ref 102), ke P "_tuplegetter" 367 (.ref 141), ke P "Match" 495 (.ref 216)]) 24), #[]⟩
noncomputable def o_12_4 (P : Params) : Obj := ⟨.none, none, (.fields (#[(j 1), (j 0), (.ref 20), (j 6), (j 0), (.ref 28), (j 19), (j 0), (.ref 35), (j 21), (j 0), (.ref 48), (j 32), (j 0), (.ref 55), (j 39), (j 0), (.ref 62), (j 45), (j 0), (.ref 69), (j 57), (j 0), (.ref 77), (j 111), (j 0), (.ref 85), (j 134), (j 0), (.ref 93), (j 146), (j 0), (.ref 101), (j 171), (j 0), (.ref 108), (j 189), (j 0), (.ref 152)])), #[]⟩
noncomputable def o_146_0 (P : Params) : Obj := ⟨.type "tuple", none, (.seq (#[(.type "tuple")]) 0), #[]⟩
noncomputable def o_147_0 (P : Params) : Obj := ⟨.type "builtin_function_or_method", none, (.fields (#[(.builtin "type.__prepare__"), (.type "type")])), #[]⟩
noncomputable def o_148_0 (P : Params) : Obj := ⟨.type "dict", none, (.dict (#[ke P "__module__" 375 (q "cpy313.difflib" 309), ke P "__qualname__" 377 (q "Match" 376), ke P "__firstlineno__" 379 (.int (189) 378), ke P "__doc__" 381 (.str d_18 380), ke P "__slots__" 383 (.ref 154), ke P "_fields" 387 (.ref 155), ke P "_field_defaults" 388 (.ref 156), ke P "__new__" 399 (.ref 163), ke P "_make" 421 (.ref 172), ke P "_replace" 432 (.ref 181), ke P "__replace__" 433 (.ref 181), ke P "__repr__" 441 (.ref 188), ke P "_asdict" 448 (.ref 195), ke P "__getnewargs__" 456 (.ref 202), ke P "__match_args__" 460 (.ref 203), ke P "a" 470 (.ref 205), ke P "b" 480 (.ref 208), ke P "size" 490 (.ref 211), ke P "__static_attributes__" 491 (.ref 213), ke P "__classcell__" 492 (.ref 149)]) 20), #[]⟩
noncomputable def o_149_0 (P : Params) : Obj := ⟨.type "cell", none, (.cell (some (.ref 216))), #[]⟩
noncomputable def o_150_0 (P : Params) : Obj := tu
noncomputable def o_151_0 (P : Params) : Obj := ⟨.none, none, (.fields (#[(j 195), (j 4), (.ref 162), (j 200), (j 4), (.ref 169), (j 207), (j 4), (.ref 180), (j 218), (j 4), (.ref 187), (j 222), (j 4), (.ref 194), (j 225), (j 4), (.ref 201)])), #[]⟩
noncomputable def o_152_0 (P : Params) : Obj := ⟨.type "code", none, (.fields (#[(q "Match" 370), (q "Match" 371), (q "/claim/cut.py" 372), (j 189), (j 0), (j 0), (j 0), (j 0), (.ref 150), (.bool false), (j 181), (.ref 151), .none, .none, .none, .none, (j 373), (j 189), (q "/claim/cut.py" 374)])), #[]⟩
noncomputable def o_153_0 (P : Params) : Obj := ⟨.type "frame", none, .plain, #[(some (.ref 152)), (some (.ref 3)), (some (.ref 148)), none, (some (q "cpy313.difflib" 309)), none, (some (.ref 0))]⟩
noncomputable def o_154_0 (P : Params) : Obj := tu
noncomputable def o_155_0 (P : Params) : Obj := ⟨.type "tuple", none, (.seq (#[(q "a" 384), (q "b" 385), (q "size" 386)]) 0), #[]⟩
noncomputable def o_156_0 (P : Params) : Obj := ⟨.type "dict", none, (.dict #[] 0), #[]⟩
noncomputable def o_157_0 (P : Params) : Obj := tu
noncomputable def o_158_0 (P : Params) : Obj := ⟨.none, none, (.fields #[]), #[]⟩
noncomputable def o_159_0 (P : Params) : Obj := ⟨.type "tuple", none, (.seq (#[(q "_cls" 392), (q "a" 393), (q "b" 394), (q "size" 395)]) 0), #[]⟩
noncomputable def o_160_0 (P : Params) : Obj := tu
noncomputable def o_161_0 (P : Params) : Obj := ⟨.none, none, (.func { name := Str.ofString "__new__", qualname := Str.ofString "Match.__new__", params := a_18_4, body := .stmts b_18_4, scope := s_18_4, globals := 0, closure := [], defaults := .none, kwdefaults := .none, doc := .none, pyModule := .none, annotations := none, code := .none, closureTuple := .none, builtins := 0 }), #[]⟩
noncomputable def o_162_0 (P : Params) : Obj := ⟨.type "code", none, (.fields (#[(q "__new__" 389), (q "Match.__new__" 390), (q "/claim/cut.py" 391), (j 195), (j 4), (j 0), (j 0), (j 3), (.ref 157), (.bool true), (j 181), (.ref 158), .none, (.ref 159), (.ref 160), (.ref 161), (j 396), (j 195), (q "/claim/cut.py" 397)])), #[]⟩
noncomputable def o_163_0 (P : Params) : Obj := ⟨.type "function", none, (.func { name := Str.ofString "__new__", qualname := Str.ofString "Match.__new__", params := a_18_4, body := .stmts b_18_4, scope := s_18_4, globals := 3, closure := [], defaults := .none, kwdefaults := .none, doc := (.str d_18_4 398), pyModule := (q "cpy313.difflib" 309), annotations := none, code := (.ref 162), closureTuple := .none, builtins := 0 }), #[]⟩
noncomputable def o_164_0 (P : Params) : Obj := tu
noncomputable def o_165_0 (P : Params) : Obj := ⟨.none, none, (.fields #[]), #[]⟩
noncomputable def o_166_0 (P : Params) : Obj := ⟨.type "tuple", none, (.seq (#[(q "cls" 403), (q "iterable" 404), (q "result" 405)]) 0), #[]⟩
noncomputable def o_167_0 (P : Params) : Obj := tu
noncomputable def o_168_0 (P : Params) : Obj := ⟨.none, none, (.func { name := Str.ofString "_make", qualname := Str.ofString "Match._make", params := a_18_5, body := .stmts b_18_5, scope := s_18_5, globals := 0, closure := [], defaults := .none, kwdefaults := .none, doc := .none, pyModule := .none, annotations := none, code := .none, closureTuple := .none, builtins := 0 }), #[]⟩
noncomputable def o_169_0 (P : Params) : Obj := ⟨.type "code", none, (.fields (#[(q "_make" 400), (q "Match._make" 401), (q "/claim/cut.py" 402), (j 199), (j 2), (j 0), (j 0), (j 3), (.ref 164), (.bool true), (j 181), (.ref 165), .none, (.ref 166), (.ref 167), (.ref 168), (j 406), (j 199), (q "/claim/cut.py" 407)])), #[]⟩
noncomputable def o_170_0 (P : Params) : Obj := ⟨.type "function", none, (.func { name := Str.ofString "_make", qualname := Str.ofString "Match._make", params := a_18_5, body := .stmts b_18_5, scope := s_18_5, globals := 3, closure := [], defaults := .none, kwdefaults := .none, doc := (.str d_18_5 408), pyModule := (q "cpy313.difflib" 309), annotations := (some 173), code := (.ref 169), closureTuple := .none, builtins := 0 }), #[]⟩
noncomputable def o_171_0 (P : Params) : Obj := ⟨.type "dict", none, (.dict (#[ke P "__module__" 410 (q "cpy313.difflib" 309), ke P "__name__" 413 (q "_make" 412), ke P "__qualname__" 416 (q "Match._make" 415), ke P "__doc__" 418 (.str d_18_5 408), ke P "__annotations__" 420 (.ref 173)]) 5), #[]⟩
noncomputable def o_172_0 (P : Params) : Obj := ⟨(.type "classmethod"), (some 171), (.fields (#[(.ref 170), (.bool false)])), #[]⟩
noncomputable def o_173_0 (P : Params) : Obj := ⟨.type "dict", none, (.dict #[] 0), #[]⟩
noncomputable def o_174_0 (P : Params) : Obj := ⟨.type "tuple", none, (.seq (#[(.ref 149)]) 0), #[]⟩
noncomputable def o_175_0 (P : Params) : Obj := ⟨.type "tuple", none, (.seq (#[(q "__class__" 425)]) 0), #[]⟩
noncomputable def o_176_0 (P : Params) : Obj := ⟨.none, none, (.fields #[]), #[]⟩
noncomputable def o_177_0 (P : Params) : Obj := ⟨.type "tuple", none, (.seq (#[(q "self" 426), (q "kwds" 427), (q "result" 428)]) 0), #[]⟩
noncomputable def o_178_0 (P : Params) : Obj := tu
noncomputable def o_179_0 (P : Params) : Obj := ⟨.none, none, (.func { name := Str.ofString "_replace", qualname := Str.ofString "Match._replace", params := a_18_6, body := .stmts b_18_6, scope := s_18_6, globals := 0, closure := [], defaults := .none, kwdefaults := .none, doc := .none, pyModule := .none, annotations := none, code := .none, closureTuple := .none, builtins := 0 }), #[]⟩
noncomputable def o_180_0 (P : Params) : Obj := ⟨.type "code", none, (.fields (#[(q "_replace" 422), (q "Match._replace" 423), (q "/claim/cut.py" 424), (j 207), (j 1), (j 1), (j 0), (j 11), (.ref 175), (.bool true), (j 181), (.ref 176), .none, (.ref 177), (.ref 178), (.ref 179), (j 429), (j 207), (q "/claim/cut.py" 430)])), #[]⟩
noncomputable def o_181_0 (P : Params) : Obj := ⟨.type "function", none, (.func { name := Str.ofString "_replace", qualname := Str.ofString "Match._replace", params := a_18_6, body := .stmts b_18_6, scope := s_18_6, globals := 3, closure := [((Str.ofString "__class__"), 149)], defaults := .none, kwdefaults := .none, doc := (.str d_18_6 431), pyModule := (q "cpy313.difflib" 309), annotations := none, code := (.ref 180), closureTuple := (.ref 174), builtins := 0 }), #[]⟩
noncomputable def o_182_0 (P : Params) : Obj := tu
noncomputable def o_183_0 (P : Params) : Obj := ⟨.none, none, (.fields #[]), #[]⟩
noncomputable def o_184_0 (P : Params) : Obj := ⟨.type "tuple", none, (.seq (#[(q "self" 437)]) 0), #[]⟩
noncomputable def o_185_0 (P : Params) : Obj := tu
noncomputable def o_186_0 (P : Params) : Obj := ⟨.none, none, (.func { name := Str.ofString "__repr__", qualname := Str.ofString "Match.__repr__", params := a_18_8, body := .stmts b_18_8, scope := s_18_8, globals := 0, closure := [], defaults := .none, kwdefaults := .none, doc := .none, pyModule := .none, annotations := none, code := .none, closureTuple := .none, builtins := 0 }), #[]⟩
noncomputable def o_187_0 (P : Params) : Obj := ⟨.type "code", none, (.fields (#[(q "__repr__" 434), (q "Match.__repr__" 435), (q "/claim/cut.py" 436), (j 218), (j 1), (j 0), (j 0), (j 3), (.ref 182), (.bool true), (j 181), (.ref 183), .none, (.ref 184), (.ref 185), (.ref 186), (j 438), (j 218), (q "/claim/cut.py" 439)])), #[]⟩
noncomputable def o_188_0 (P : Params) : Obj := ⟨.type "function", none, (.func { name := Str.ofString "__repr__", qualname := Str.ofString "Match.__repr__", params := a_18_8, body := .stmts b_18_8, scope := s_18_8, globals := 3, closure := [], defaults := .none, kwdefaults := .none, doc := (.str d_18_8 440), pyModule := (q "cpy313.difflib" 309), annotations := none, code := (.ref 187), closureTuple := .none, builtins := 0 }), #[]⟩
noncomputable def o_189_0 (P : Params) : Obj := tu
noncomputable def o_190_0 (P : Params) : Obj := ⟨.none, none, (.fields #[]), #[]⟩
noncomputable def o_191_0 (P : Params) : Obj := ⟨.type "tuple", none, (.seq (#[(q "self" 445)]) 0), #[]⟩
noncomputable def o_192_0 (P : Params) : Obj := tu
noncomputable def o_193_0 (P : Params) : Obj := ⟨.none, none, (.func { name := Str.ofString "_asdict", qualname := Str.ofString "Match._asdict", params := a_18_9, body := .stmts b_18_9, scope := s_18_9, globals := 0, closure := [], defaults := .none, kwdefaults := .none, doc := .none, pyModule := .none, annotations := none, code := .none, closureTuple := .none, builtins := 0 }), #[]⟩
noncomputable def o_194_0 (P : Params) : Obj := ⟨.type "code", none, (.fields (#[(q "_asdict" 442), (q "Match._asdict" 443), (q "/claim/cut.py" 444), (j 222), (j 1), (j 0), (j 0), (j 3), (.ref 189), (.bool true), (j 181), (.ref 190), .none, (.ref 191), (.ref 192), (.ref 193), (j 446), (j 222), (q "/claim/cut.py" 447)])), #[]⟩
noncomputable def o_195_0 (P : Params) : Obj := ⟨.type "function", none, (.func { name := Str.ofString "_asdict", qualname := Str.ofString "Match._asdict", params := a_18_9, body := .stmts b_18_9, scope := s_18_9, globals := 3, closure := [], defaults := .none, kwdefaults := .none, doc := .none, pyModule := (q "cpy313.difflib" 309), annotations := none, code := (.ref 194), closureTuple := .none, builtins := 0 }), #[]⟩
noncomputable def o_196_0 (P : Params) : Obj := tu
noncomputable def o_197_0 (P : Params) : Obj := ⟨.none, none, (.fields #[]), #[]⟩
noncomputable def o_198_0 (P : Params) : Obj := ⟨.type "tuple", none, (.seq (#[(q "self" 452)]) 0), #[]⟩
noncomputable def o_199_0 (P : Params) : Obj := tu
noncomputable def o_200_0 (P : Params) : Obj := ⟨.none, none, (.func { name := Str.ofString "__getnewargs__", qualname := Str.ofString "Match.__getnewargs__", params := a_18_10, body := .stmts b_18_10, scope := s_18_10, globals := 0, closure := [], defaults := .none, kwdefaults := .none, doc := .none, pyModule := .none, annotations := none, code := .none, closureTuple := .none, builtins := 0 }), #[]⟩
noncomputable def o_201_0 (P : Params) : Obj := ⟨.type "code", none, (.fields (#[(q "__getnewargs__" 449), (q "Match.__getnewargs__" 450), (q "/claim/cut.py" 451), (j 225), (j 1), (j 0), (j 0), (j 3), (.ref 196), (.bool true), (j 181), (.ref 197), .none, (.ref 198), (.ref 199), (.ref 200), (j 453), (j 225), (q "/claim/cut.py" 454)])), #[]⟩
noncomputable def o_202_0 (P : Params) : Obj := ⟨.type "function", none, (.func { name := Str.ofString "__getnewargs__", qualname := Str.ofString "Match.__getnewargs__", params := a_18_10, body := .stmts b_18_10, scope := s_18_10, globals := 3, closure := [], defaults := .none, kwdefaults := .none, doc := (.str d_18_10 455), pyModule := (q "cpy313.difflib" 309), annotations := none, code := (.ref 201), closureTuple := .none, builtins := 0 }), #[]⟩
noncomputable def o_203_0 (P : Params) : Obj := ⟨.type "tuple", none, (.seq (#[(q "a" 457), (q "b" 458), (q "size" 459)]) 0), #[]⟩
noncomputable def o_204_0 (P : Params) : Obj := ⟨.type "dict", none, (.dict (#[ke P "index" 467 (.int (0) 461), ke P "__doc__" 469 (q "Alias for field number 0" 462)]) 2), #[]⟩
noncomputable def o_205_0 (P : Params) : Obj := ⟨(.ref 141), (some 204), .plain, #[]⟩
noncomputable def o_206_0 (P : Params) : Obj := ⟨.type "frame", none, (.dict (#[ke P "self" 463 (.ref 205), ke P "index" 464 (.int (0) 461), ke P "doc" 465 (q "Alias for field number 0" 462)]) 3), #[]⟩
noncomputable def o_207_0 (P : Params) : Obj := ⟨.type "dict", none, (.dict (#[ke P "index" 477 (.int (1) 471), ke P "__doc__" 479 (q "Alias for field number 1" 472)]) 2), #[]⟩
noncomputable def o_208_0 (P : Params) : Obj := ⟨(.ref 141), (some 207), .plain, #[]⟩
noncomputable def o_209_0 (P : Params) : Obj := ⟨.type "frame", none, (.dict (#[ke P "self" 473 (.ref 208), ke P "index" 474 (.int (1) 471), ke P "doc" 475 (q "Alias for field number 1" 472)]) 3), #[]⟩
noncomputable def o_210_0 (P : Params) : Obj := ⟨.type "dict", none, (.dict (#[ke P "index" 487 (.int (2) 481), ke P "__doc__" 489 (q "Alias for field number 2" 482)]) 2), #[]⟩
noncomputable def o_211_0 (P : Params) : Obj := ⟨(.ref 141), (some 210), .plain, #[]⟩
noncomputable def o_212_0 (P : Params) : Obj := ⟨.type "frame", none, (.dict (#[ke P "self" 483 (.ref 211), ke P "index" 484 (.int (2) 481), ke P "doc" 485 (q "Alias for field number 2" 482)]) 3), #[]⟩
noncomputable def o_213_0 (P : Params) : Obj := tu
noncomputable def o_214_0 (P : Params) : Obj := ⟨.type "list", none, (.seq #[] 0), #[]⟩
noncomputable def o_215_0 (P : Params) : Obj := ⟨.type "dict", none, (.dict (#[ke P "__module__" 375 (q "cpy313.difflib" 309), ke P "__firstlineno__" 379 (.int (189) 378), ke P "__doc__" 381 (.str d_18 380), ke P "__slots__" 383 (.ref 154), ke P "_fields" 387 (.ref 155), ke P "_field_defaults" 388 (.ref 156), ke P "__new__" 399 (.ref 217), ke P "_make" 421 (.ref 172), ke P "_replace" 432 (.ref 181), ke P "__replace__" 433 (.ref 181), ke P "__repr__" 441 (.ref 188), ke P "_asdict" 448 (.ref 195), ke P "__getnewargs__" 456 (.ref 202), ke P "__match_args__" 460 (.ref 203), ke P "a" 470 (.ref 205), ke P "b" 480 (.ref 208), ke P "size" 490 (.ref 211), ke P "__static_attributes__" 491 (.ref 213)]) 2), #[]⟩
noncomputable def o_216_0 (P : Params) : Obj := ⟨.type "type", none, (.cls { name := Str.ofString "Match", bases := [(.type "tuple")], mro := [(.ref 216), (.type "tuple"), (.type "object")], ns := 215, qualname := Str.ofString "Match", hasDict := false, slotNames := [], subclasses := [], abstract := false, collection := none, hasDel := false }), #[(some (.ref 146)), none, (some (q "Match" 368)), (some (q "Match" 376)), (some .none), (some (.bool false))]⟩
noncomputable def o_217_0 (P : Params) : Obj := ⟨.type "staticmethod", none, (.fields (#[(.ref 163)])), #[]⟩
noncomputable def o_218_0 (P : Params) : Obj := ⟨.type "super", none, (.fields (#[(.ref 216), (.ref 216), (.ref 216)])), #[]⟩
noncomputable def o_219_0 (P : Params) : Obj := ⟨.type "builtin_function_or_method", none, (.fields (#[(.builtin "object.__init_subclass__"), (.ref 216)])), #[]⟩
noncomputable def T_18 (P : Params) : BT := (nd (boot_o_0 P) (nd (boot_o_1 P) (nd (o_3_3 P) (nd (boot_o_7 P) (nd (o_15_0 P) (nd (o_31_0 P) (nd (o_63_0 P) (lf (o_127_0 P)) (lf (o_191_0 P))) (nd (o_95_0 P) (lf (o_159_0 P)) .nil)) (nd (o_47_0 P) (nd (o_79_0 P) (lf (o_143_0 P)) (lf (o_207_0 P))) (nd (o_111_0 P) (lf (o_175_0 P)) .nil))) (nd (o_23_0 P) (nd (o_39_0 P) (nd (o_71_0 P) (lf (o_135_0 P)) (lf (o_199_0 P))) (nd (o_103_0 P) (lf (o_167_0 P)) .nil)) (nd (o_55_0 P) (nd (o_87_0 P) (lf (o_151_0 P)) (lf (o_215_0 P))) (nd (o_119_0 P) (lf (o_183_0 P)) .nil)))) (nd (o_11_0 P) (nd (o_19_0 P) (nd (o_35_0 P) (nd (o_67_0 P) (lf (o_131_0 P)) (lf (o_195_0 P))) (nd (o_99_0 P) (lf (o_163_0 P)) .nil)) (nd (o_51_0 P) (nd (o_83_0 P) (lf (o_147_0 P)) (lf (o_211_0 P))) (nd (o_115_0 P) (lf (o_179_0 P)) .nil))) (nd (o_27_0 P) (nd (o_43_0 P) (nd (o_75_0 P) (lf (o_139_0 P)) (lf (o_203_0 P))) (nd (o_107_0 P) (lf (o_171_0 P)) .nil)) (nd (o_59_0 P) (nd (o_91_0 P) (lf (o_155_0 P)) (lf (o_219_0 P))) (nd (o_123_0 P) (lf (o_187_0 P)) .nil))))) (nd (boot_o_5 P) (nd (boot_o_9 P) (nd (o_17_0 P) (nd (o_33_0 P) (nd (o_65_0 P) (lf (o_129_0 P)) (lf (o_193_0 P))) (nd (o_97_0 P) (lf (o_161_0 P)) .nil)) (nd (o_49_0 P) (nd (o_81_0 P) (lf (o_145_0 P)) (lf (o_209_0 P))) (nd (o_113_0 P) (lf (o_177_0 P)) .nil))) (nd (o_25_0 P) (nd (o_41_0 P) (nd (o_73_0 P) (lf (o_137_0 P)) (lf (o_201_0 P))) (nd (o_105_0 P) (lf (o_169_0 P)) .nil)) (nd (o_57_0 P) (nd (o_89_0 P) (lf (o_153_0 P)) (lf (o_217_0 P))) (nd (o_121_0 P) (lf (o_185_0 P)) .nil)))) (nd (o_13_0 P) (nd (o_21_0 P) (nd (o_37_0 P) (nd (o_69_0 P) (lf (o_133_0 P)) (lf (o_197_0 P))) (nd (o_101_0 P) (lf (o_165_0 P)) .nil)) (nd (o_53_0 P) (nd (o_85_0 P) (lf (o_149_0 P)) (lf (o_213_0 P))) (nd (o_117_0 P) (lf (o_181_0 P)) .nil))) (nd (o_29_0 P) (nd (o_45_0 P) (nd (o_77_0 P) (lf (o_141_0 P)) (lf (o_205_0 P))) (nd (o_109_0 P) (lf (o_173_0 P)) .nil)) (nd (o_61_0 P) (nd (o_93_0 P) (lf (o_157_0 P)) .nil) (nd (o_125_0 P) (lf (o_189_0 P)) .nil)))))) (nd (boot_o_2 P) (nd (boot_o_4 P) (nd (boot_o_8 P) (nd (o_16_0 P) (nd (o_32_0 P) (nd (o_64_0 P) (lf (o_128_0 P)) (lf (o_192_0 P))) (nd (o_96_0 P) (lf (o_160_0 P)) .nil)) (nd (o_48_0 P) (nd (o_80_0 P) (lf (o_144_0 P)) (lf (o_208_0 P))) (nd (o_112_0 P) (lf (o_176_0 P)) .nil))) (nd (o_24_0 P) (nd (o_40_0 P) (nd (o_72_0 P) (lf (o_136_0 P)) (lf (o_200_0 P))) (nd (o_104_0 P) (lf (o_168_0 P)) .nil)) (nd (o_56_0 P) (nd (o_88_0 P) (lf (o_152_0 P)) (lf (o_216_0 P))) (nd (o_120_0 P) (lf (o_184_0 P)) .nil)))) (nd (o_12_4 P) (nd (o_20_0 P) (nd (o_36_0 P) (nd (o_68_0 P) (lf (o_132_0 P)) (lf (o_196_0 P))) (nd (o_100_0 P) (lf (o_164_0 P)) .nil)) (nd (o_52_0 P) (nd (o_84_0 P) (lf (o_148_0 P)) (lf (o_212_0 P))) (nd (o_116_0 P) (lf (o_180_0 P)) .nil))) (nd (o_28_0 P) (nd (o_44_0 P) (nd (o_76_0 P) (lf (o_140_0 P)) (lf (o_204_0 P))) (nd (o_108_0 P) (lf (o_172_0 P)) .nil)) (nd (o_60_0 P) (nd (o_92_0 P) (lf (o_156_0 P)) .nil) (nd (o_124_0 P) (lf (o_188_0 P)) .nil))))) (nd (boot_o_6 P) (nd (boot_o_10 P) (nd (o_18_0 P) (nd (o_34_0 P) (nd (o_66_0 P) (lf (o_130_0 P)) (lf (o_194_0 P))) (nd (o_98_0 P) (lf (o_162_0 P)) .nil)) (nd (o_50_0 P) (nd (o_82_0 P) (lf (o_146_0 P)) (lf (o_210_0 P))) (nd (o_114_0 P) (lf (o_178_0 P)) .nil))) (nd (o_26_0 P) (nd (o_42_0 P) (nd (o_74_0 P) (lf (o_138_0 P)) (lf (o_202_0 P))) (nd (o_106_0 P) (lf (o_170_0 P)) .nil)) (nd (o_58_0 P) (nd (o_90_0 P) (lf (o_154_0 P)) (lf (o_218_0 P))) (nd (o_122_0 P) (lf (o_186_0 P)) .nil)))) (nd (o_14_0 P) (nd (o_22_0 P) (nd (o_38_0 P) (nd (o_70_0 P) (lf (o_134_0 P)) (lf (o_198_0 P))) (nd (o_102_0 P) (lf (o_166_0 P)) .nil)) (nd (o_54_0 P) (nd (o_86_0 P) (lf (o_150_0 P)) (lf (o_214_0 P))) (nd (o_118_0 P) (lf (o_182_0 P)) .nil))) (nd (o_30_0 P) (nd (o_46_0 P) (nd (o_78_0 P) (lf (o_142_0 P)) (lf (o_206_0 P))) (nd (o_110_0 P) (lf (o_174_0 P)) .nil)) (nd (o_62_0 P) (nd (o_94_0 P) (lf (o_158_0 P)) .nil) (nd (o_126_0 P) (lf (o_190_0 P)) .nil)))))))
noncomputable def S_18 (w : World) (os : OsState) : SharedT := ⟨T_18 w.params, 220, {}, #[], {}, 496, os⟩
noncomputable def o_3_4 (P : Params) : Obj := ⟨.type "dict", none, (.dict (#[ke P "__name__" 165 (q "cpy313.difflib" 309), ke P "__doc__" 166 .none, ke P "__package__" 167 .none, ke P "__loader__" 168 (.builtin "__main__.__loader__#opaque"), ke P "__spec__" 169 .none, ke P "__annotations__" 170 (.ref 6), ke P "__builtins__" 171 (.ref 4), ke P "__file__" 173 (q "/claim/cut.py" 172), ke P "__cached__" 174 .none, ke P "_wall" 193 (.ref 21), ke P "bytes_types" 196 (.ref 22), ke P "_bytes_from_decode_data" 203 (.ref 29), ke P "Error" 223 (.ref 39), ke P "_ascii_buffer" 231 (.ref 49), ke P "_buffer" 239 (.ref 56), ke P "_truth" 247 (.ref 63), ke P "_B64" 249 (.bytes #[65, 66, 67, 68, 69, 70, 71, 72, 73, 74, 75, 76, 77, 78, 79, 80, 81, 82, 83, 84, 85, 86, 87, 88, 89, 90, 97, 98, 99, 100, 101, 102, 103, 104, 105, 106, 107, 108, 109, 110, 111, 112, 113, 114, 115, 116, 117, 118, 119, 120, 121, 122, 48, 49, 50, 51, 52, 53, 54, 55, 56, 57, 43, 47] 248), ke P "_b64_value" 256 (.ref 70), ke P "a2b_base64" 272 (.ref 78), ke P "b2a_base64" 286 (.ref 86), ke P "b64encode" 298 (.ref 94), ke P "b64decode" 308 (.ref 102), ke P "_tuplegetter" 367 (.ref 141), ke P "Match" 495 (.ref 216), ke P "_calculate_ratio" 503 (.ref 226)]) 25), #[]⟩
noncomputable def o_12_5 (P : Params) : Obj := ⟨.none, none, (.fields (#[(j 1), (j 0), (.ref 20), (j 6), (j 0), (.ref 28), (j 19), (j 0), (.ref 35), (j 21), (j 0), (.ref 48), (j 32), (j 0), (.ref 55), (j 39), (j 0), (.ref 62), (j 45), (j 0), (.ref 69), (j 57), (j 0), (.ref 77), (j 111), (j 0), (.ref 85), (j 134), (j 0), (.ref 93), (j 146), (j 0), (.ref 101), (j 171), (j 0), (.ref 108), (j 189), (j 0), (.ref 152), (j 232), (j 0), (.ref 225)])), #[]⟩
noncomputable def o_220_0 (P : Params) : Obj := tu
noncomputable def o_221_0 (P : Params) : Obj := ⟨.none, none, (.fields #[]), #[]⟩
noncomputable def o_222_0 (P : Params) : Obj := ⟨.type "tuple", none, (.seq (#[(q "matches" 499), (q "length" 500)]) 0), #[]⟩
noncomputable def o_223_0 (P : Params) : Obj := tu
noncomputable def o_224_0 (P : Params) : Obj := ⟨.none, none, (.func { name := Str.ofString "_calculate_ratio", qualname := Str.ofString "_calculate_ratio", params := a_19, body := .stmts b_19, scope := s_19, globals := 0, closure := [], defaults := .none, kwdefaults := .none, doc := .none, pyModule := .none, annotations := none, code := .none, closureTuple := .none, builtins := 0 }), #[]⟩
noncomputable def o_225_0 (P : Params) : Obj := ⟨.type "code", none, (.fields (#[(q "_calculate_ratio" 496), (q "_calculate_ratio" 497), (q "/claim/cut.py" 498), (j 232), (j 2), (j 0), (j 0), (j 3), (.ref 220), (.bool true), (j 181), (.ref 221), .none, (.ref 222), (.ref 223), (.ref 224), (j 501), (j 232), (q "/claim/cut.py" 502)])), #[]⟩
noncomputable def o_226_0 (P : Params) : Obj := ⟨.type "function", none, (.func { name := Str.ofString "_calculate_ratio", qualname := Str.ofString "_calculate_ratio", params := a_19, body := .stmts b_19, scope := s_19, globals := 3, closure := [], defaults := .none, kwdefaults := .none, doc := .none, pyModule := (q "cpy313.difflib" 309), annotations := none, code := (.ref 225), closureTuple := .none, builtins := 0 }), #[]⟩
noncomputable def T_19 (P : Params) : BT := (nd (boot_o_0 P) (nd (boot_o_1 P) (nd (o_3_4 P) (nd (boot_o_7 P) (nd (o_15_0 P) (nd (o_31_0 P) (nd (o_63_0 P) (lf (o_127_0 P)) (lf (o_191_0 P))) (nd (o_95_0 P) (lf (o_159_0 P)) (lf (o_223_0 P)))) (nd (o_47_0 P) (nd (o_79_0 P) (lf (o_143_0 P)) (lf (o_207_0 P))) (nd (o_111_0 P) (lf (o_175_0 P)) .nil))) (nd (o_23_0 P) (nd (o_39_0 P) (nd (o_71_0 P) (lf (o_135_0 P)) (lf (o_199_0 P))) (nd (o_103_0 P) (lf (o_167_0 P)) .nil)) (nd (o_55_0 P) (nd (o_87_0 P) (lf (o_151_0 P)) (lf (o_215_0 P))) (nd (o_119_0 P) (lf (o_183_0 P)) .nil)))) (nd (o_11_0 P) (nd (o_19_0 P) (nd (o_35_0 P) (nd (o_67_0 P) (lf (o_131_0 P)) (lf (o_195_0 P))) (nd (o_99_0 P) (lf (o_163_0 P)) .nil)) (nd (o_51_0 P) (nd (o_83_0 P) (lf (o_147_0 P)) (lf (o_211_0 P))) (nd (o_115_0 P) (lf (o_179_0 P)) .nil))) (nd (o_27_0 P) (nd (o_43_0 P) (nd (o_75_0 P) (lf (o_139_0 P)) (lf (o_203_0 P))) (nd (o_107_0 P) (lf (o_171_0 P)) .nil)) (nd (o_59_0 P) (nd (o_91_0 P) (lf (o_155_0 P)) (lf (o_219_0 P))) (nd (o_123_0 P) (lf (o_187_0 P)) .nil))))) (nd (boot_o_5 P) (nd (boot_o_9 P) (nd (o_17_0 P) (nd (o_33_0 P) (nd (o_65_0 P) (lf (o_129_0 P)) (lf (o_193_0 P))) (nd (o_97_0 P) (lf (o_161_0 P)) (lf (o_225_0 P)))) (nd (o_49_0 P) (nd (o_81_0 P) (lf (o_145_0 P)) (lf (o_209_0 P))) (nd (o_113_0 P) (lf (o_177_0 P)) .nil))) (nd (o_25_0 P) (nd (o_41_0 P) (nd (o_73_0 P) (lf (o_137_0 P)) (lf (o_201_0 P))) (nd (o_105_0 P) (lf (o_169_0 P)) .nil)) (nd (o_57_0 P) (nd (o_89_0 P) (lf (o_153_0 P)) (lf (o_217_0 P))) (nd (o_121_0 P) (lf (o_185_0 P)) .nil)))) (nd (o_13_0 P) (nd (o_21_0 P) (nd (o_37_0 P) (nd (o_69_0 P) (lf (o_133_0 P)) (lf (o_197_0 P))) (nd (o_101_0 P) (lf (o_165_0 P)) .nil)) (nd (o_53_0 P) (nd (o_85_0 P) (lf (o_149_0 P)) (lf (o_213_0 P))) (nd (o_117_0 P) (lf (o_181_0 P)) .nil))) (nd (o_29_0 P) (nd (o_45_0 P) (nd (o_77_0 P) (lf (o_141_0 P)) (lf (o_205_0 P))) (nd (o_109_0 P) (lf (o_173_0 P)) .nil)) (nd (o_61_0 P) (nd (o_93_0 P) (lf (o_157_0 P)) (lf (o_221_0 P))) (nd (o_125_0 P) (lf (o_189_0 P)) .nil)))))) (nd (boot_o_2 P) (nd (boot_o_4 P) (nd (boot_o_8 P) (nd (o_16_0 P) (nd (o_32_0 P) (nd (o_64_0 P) (lf (o_128_0 P)) (lf (o_192_0 P))) (nd (o_96_0 P) (lf (o_160_0 P)) (lf (o_224_0 P)))) (nd (o_48_0 P) (nd (o_80_0 P) (lf (o_144_0 P)) (lf (o_208_0 P))) (nd (o_112_0 P) (lf (o_176_0 P)) .nil))) (nd (o_24_0 P) (nd (o_40_0 P) (nd (o_72_0 P) (lf (o_136_0 P)) (lf (o_200_0 P))) (nd (o_104_0 P) (lf (o_168_0 P)) .nil)) (nd (o_56_0 P) (nd (o_88_0 P) (lf (o_152_0 P)) (lf (o_216_0 P))) (nd (o_120_0 P) (lf (o_184_0 P)) .nil)))) (nd (o_12_5 P) (nd (o_20_0 P) (nd (o_36_0 P) (nd (o_68_0 P) (lf (o_132_0 P)) (lf (o_196_0 P))) (nd (o_100_0 P) (lf (o_164_0 P)) .nil)) (nd (o_52_0 P) (nd (o_84_0 P) (lf (o_148_0 P)) (lf (o_212_0 P))) (nd (o_116_0 P) (lf (o_180_0 P)) .nil))) (nd (o_28_0 P) (nd (o_44_0 P) (nd (o_76_0 P) (lf (o_140_0 P)) (lf (o_204_0 P))) (nd (o_108_0 P) (lf (o_172_0 P)) .nil)) (nd (o_60_0 P) (nd (o_92_0 P) (lf (o_156_0 P)) (lf (o_220_0 P))) (nd (o_124_0 P) (lf (o_188_0 P)) .nil))))) (nd (boot_o_6 P) (nd (boot_o_10 P) (nd (o_18_0 P) (nd (o_34_0 P) (nd (o_66_0 P) (lf (o_130_0 P)) (lf (o_194_0 P))) (nd (o_98_0 P) (lf (o_162_0 P)) (lf (o_226_0 P)))) (nd (o_50_0 P) (nd (o_82_0 P) (lf (o_146_0 P)) (lf (o_210_0 P))) (nd (o_114_0 P) (lf (o_178_0 P)) .nil))) (nd (o_26_0 P) (nd (o_42_0 P) (nd (o_74_0 P) (lf (o_138_0 P)) (lf (o_202_0 P))) (nd (o_106_0 P) (lf (o_170_0 P)) .nil)) (nd (o_58_0 P) (nd (o_90_0 P) (lf (o_154_0 P)) (lf (o_218_0 P))) (nd (o_122_0 P) (lf (o_186_0 P)) .nil)))) (nd (o_14_0 P) (nd (o_22_0 P) (nd (o_38_0 P) (nd (o_70_0 P) (lf (o_134_0 P)) (lf (o_198_0 P))) (nd (o_102_0 P) (lf (o_166_0 P)) .nil)) (nd (o_54_0 P) (nd (o_86_0 P) (lf (o_150_0 P)) (lf (o_214_0 P))) (nd (o_118_0 P) (lf (o_182_0 P)) .nil))) (nd (o_30_0 P) (nd (o_46_0 P) (nd (o_78_0 P) (lf (o_142_0 P)) (lf (o_206_0 P))) (nd (o_110_0 P) (lf (o_174_0 P)) .nil)) (nd (o_62_0 P) (nd (o_94_0 P) (lf (o_158_0 P)) (lf (o_222_0 P))) (nd (o_126_0 P) (lf (o_190_0 P)) .nil)))))))
noncomputable def S_19 (w : World) (os : OsState) : SharedT := ⟨T_19 w.params, 227, {}, #[], {}, 504, os⟩
noncomputable def o_3_5 (P : Params) : Obj := ⟨.type "dict", none, (.dict (#[ke P "__name__" 165 (q "cpy313.difflib" 309), ke P "__doc__" 166 .none, ke P "__package__" 167 .none, ke P "__loader__" 168 (.builtin "__main__.__loader__#opaque"), ke P "__spec__" 169 .none, ke P "__annotations__" 170 (.ref 6), ke P "__builtins__" 171 (.ref 4), ke P "__file__" 173 (q "/claim/cut.py" 172), ke P "__cached__" 174 .none, ke P "_wall" 193 (.ref 21), ke P "bytes_types" 196 (.ref 22), ke P "_bytes_from_decode_data" 203 (.ref 29), ke P "Error" 223 (.ref 39), ke P "_ascii_buffer" 231 (.ref 49), ke P "_buffer" 239 (.ref 56), ke P "_truth" 247 (.ref 63), ke P "_B64" 249 (.bytes #[65, 66, 67, 68, 69, 70, 71, 72, 73, 74, 75, 76, 77, 78, 79, 80, 81, 82, 83, 84, 85, 86, 87, 88, 89, 90, 97, 98, 99, 100, 101, 102, 103, 104, 105, 106, 107, 108, 109, 110, 111, 112, 113, 114, 115, 116, 117, 118, 119, 120, 121, 122, 48, 49, 50, 51, 52, 53, 54, 55, 56, 57, 43, 47] 248), ke P "_b64_value" 256 (.ref 70), ke P "a2b_base64" 272 (.ref 78), ke P "b2a_base64" 286 (.ref 86), ke P "b64encode" 298 (.ref 94), ke P "b64decode" 308 (.ref 102), ke P "_tuplegetter" 367 (.ref 141), ke P "Match" 495 (.ref 216), ke P "_calculate_ratio" 503 (.ref 226), ke P "SequenceMatcher" 697 (.ref 323)]) 26), #[]⟩
noncomputable def o_12_6 (P : Params) : Obj := ⟨.none, none, (.fields (#[(j 1), (j 0), (.ref 20), (j 6), (j 0), (.ref 28), (j 19), (j 0), (.ref 35), (j 21), (j 0), (.ref 48), (j 32), (j 0), (.ref 55), (j 39), (j 0), (.ref 62), (j 45), (j 0), (.ref 69), (j 57), (j 0), (.ref 77), (j 111), (j 0), (.ref 85), (j 134), (j 0), (.ref 93), (j 146), (j 0), (.ref 101), (j 171), (j 0), (.ref 108), (j 189), (j 0), (.ref 152), (j 232), (j 0), (.ref 225), (j 236), (j 0), (.ref 232)])), #[]⟩
noncomputable def o_227_0 (P : Params) : Obj := tu
noncomputable def o_228_0 (P : Params) : Obj := ⟨.type "builtin_function_or_method", none, (.fields (#[(.builtin "type.__prepare__"), (.type "type")])), #[]⟩
noncomputable def o_229_0 (P : Params) : Obj := ⟨.type "dict", none, (.dict (#[ke P "__module__" 511 (q "cpy313.difflib" 309), ke P "__qualname__" 513 (q "SequenceMatcher" 512), ke P "__firstlineno__" 515 (.int (236) 514), ke P "__doc__" 517 (.str d_20 516), ke P "__init__" 532 (.ref 241), ke P "set_seqs" 542 (.ref 248), ke P "set_seq1" 551 (.ref 255), ke P "set_seq2" 560 (.ref 262), ke P "_SequenceMatcher__chain_b" 578 (.ref 269), ke P "find_longest_match" 606 (.ref 277), ke P "get_matching_blocks" 633 (.ref 284), ke P "get_opcodes" 648 (.ref 291), ke P "get_grouped_opcodes" 657 (.ref 299), ke P "ratio" 666 (.ref 306), ke P "quick_ratio" 673 (.ref 313), ke P "real_quick_ratio" 680 (.ref 320), ke P "__static_attributes__" 691 (.ref 321)]) 17), #[]⟩
noncomputable def o_230_0 (P : Params) : Obj := tu
noncomputable def o_231_0 (P : Params) : Obj := ⟨.none, none, (.fields (#[(j 311), (j 4), (.ref 240), (j 339), (j 4), (.ref 247), (j 350), (j 4), (.ref 254), (j 375), (j 4), (.ref 261), (j 402), (j 4), (.ref 268), (j 426), (j 4), (.ref 276), (j 501), (j 4), (.ref 283), (j 549), (j 4), (.ref 290), (j 596), (j 4), (.ref 298), (j 599), (j 4), (.ref 305), (j 623), (j 4), (.ref 312), (j 626), (j 4), (.ref 319)])), #[]⟩
noncomputable def o_232_0 (P : Params) : Obj := ⟨.type "code", none, (.fields (#[(q "SequenceMatcher" 506), (q "SequenceMatcher" 507), (q "/claim/cut.py" 508), (j 236), (j 0), (j 0), (j 0), (j 0), (.ref 230), (.bool false), (j 181), (.ref 231), .none, .none, .none, .none, (j 509), (j 236), (q "/claim/cut.py" 510)])), #[]⟩
noncomputable def o_233_0 (P : Params) : Obj := ⟨.type "frame", none, .plain, #[(some (.ref 232)), (some (.ref 3)), (some (.ref 229)), none, (some (q "cpy313.difflib" 309)), none, (some (.ref 0))]⟩
noncomputable def o_234_0 (P : Params) : Obj := ⟨.type "tuple", none, (.seq (#[.none, (q "" 519), (q "" 520), (.bool true)]) 0), #[]⟩
noncomputable def o_235_0 (P : Params) : Obj := tu
noncomputable def o_236_0 (P : Params) : Obj := ⟨.none, none, (.fields #[]), #[]⟩
noncomputable def o_237_0 (P : Params) : Obj := ⟨.type "tuple", none, (.seq (#[(q "self" 524), (q "isjunk" 525), (q "a" 526), (q "b" 527), (q "autojunk" 528)]) 0), #[]⟩
noncomputable def o_238_0 (P : Params) : Obj := tu
noncomputable def o_239_0 (P : Params) : Obj := ⟨.none, none, (.func { name := Str.ofString "__init__", qualname := Str.ofString "SequenceMatcher.__init__", params := a_20_1, body := .stmts b_20_1, scope := s_20_1, globals := 0, closure := [], defaults := .none, kwdefaults := .none, doc := .none, pyModule := .none, annotations := none, code := .none, closureTuple := .none, builtins := 0 }), #[]⟩
noncomputable def o_240_0 (P : Params) : Obj := ⟨.type "code", none, (.fields (#[(q "__init__" 521), (q "SequenceMatcher.__init__" 522), (q "/claim/cut.py" 523), (j 311), (j 5), (j 0), (j 0), (j 3), (.ref 235), (.bool true), (j 181), (.ref 236), .none, (.ref 237), (.ref 238), (.ref 239), (j 529), (j 311), (q "/claim/cut.py" 530)])), #[]⟩
noncomputable def o_241_0 (P : Params) : Obj := ⟨.type "function", none, (.func { name := Str.ofString "__init__", qualname := Str.ofString "SequenceMatcher.__init__", params := a_20_1, body := .stmts b_20_1, scope := s_20_1, globals := 3, closure := [], defaults := (.ref 234), kwdefaults := .none, doc := (.str d_20_1 531), pyModule := (q "cpy313.difflib" 309), annotations := none, code := (.ref 240), closureTuple := .none, builtins := 0 }), #[]⟩
noncomputable def o_242_0 (P : Params) : Obj := tu
noncomputable def o_243_0 (P : Params) : Obj := ⟨.none, none, (.fields #[]), #[]⟩
noncomputable def o_244_0 (P : Params) : Obj := ⟨.type "tuple", none, (.seq (#[(q "self" 536), (q "a" 537), (q "b" 538)]) 0), #[]⟩
noncomputable def o_245_0 (P : Params) : Obj := tu
noncomputable def o_246_0 (P : Params) : Obj := ⟨.none, none, (.func { name := Str.ofString "set_seqs", qualname := Str.ofString "SequenceMatcher.set_seqs", params := a_20_2, body := .stmts b_20_2, scope := s_20_2, globals := 0, closure := [], defaults := .none, kwdefaults := .none, doc := .none, pyModule := .none, annotations := none, code := .none, closureTuple := .none, builtins := 0 }), #[]⟩
noncomputable def o_247_0 (P : Params) : Obj := ⟨.type "code", none, (.fields (#[(q "set_seqs" 533), (q "SequenceMatcher.set_seqs" 534), (q "/claim/cut.py" 535), (j 339), (j 3), (j 0), (j 0), (j 3), (.ref 242), (.bool true), (j 181), (.ref 243), .none, (.ref 244), (.ref 245), (.ref 246), (j 539), (j 339), (q "/claim/cut.py" 540)])), #[]⟩
noncomputable def o_248_0 (P : Params) : Obj := ⟨.type "function", none, (.func { name := Str.ofString "set_seqs", qualname := Str.ofString "SequenceMatcher.set_seqs", params := a_20_2, body := .stmts b_20_2, scope := s_20_2, globals := 3, closure := [], defaults := .none, kwdefaults := .none, doc := (.str d_20_2 541), pyModule := (q "cpy313.difflib" 309), annotations := none, code := (.ref 247), closureTuple := .none, builtins := 0 }), #[]⟩
noncomputable def o_249_0 (P : Params) : Obj := tu
noncomputable def o_250_0 (P : Params) : Obj := ⟨.none, none, (.fields #[]), #[]⟩
noncomputable def o_251_0 (P : Params) : Obj := ⟨.type "tuple", none, (.seq (#[(q "self" 546), (q "a" 547)]) 0), #[]⟩
noncomputable def o_252_0 (P : Params) : Obj := tu
noncomputable def o_253_0 (P : Params) : Obj := ⟨.none, none, (.func { name := Str.ofString "set_seq1", qualname := Str.ofString "SequenceMatcher.set_seq1", params := a_20_3, body := .stmts b_20_3, scope := s_20_3, globals := 0, closure := [], defaults := .none, kwdefaults := .none, doc := .none, pyModule := .none, annotations := none, code := .none, closureTuple := .none, builtins := 0 }), #[]⟩
noncomputable def o_254_0 (P : Params) : Obj := ⟨.type "code", none, (.fields (#[(q "set_seq1" 543), (q "SequenceMatcher.set_seq1" 544), (q "/claim/cut.py" 545), (j 350), (j 2), (j 0), (j 0), (j 3), (.ref 249), (.bool true), (j 181), (.ref 250), .none, (.ref 251), (.ref 252), (.ref 253), (j 548), (j 350), (q "/claim/cut.py" 549)])), #[]⟩
noncomputable def o_255_0 (P : Params) : Obj := ⟨.type "function", none, (.func { name := Str.ofString "set_seq1", qualname := Str.ofString "SequenceMatcher.set_seq1", params := a_20_3, body := .stmts b_20_3, scope := s_20_3, globals := 3, closure := [], defaults := .none, kwdefaults := .none, doc := (.str d_20_3 550), pyModule := (q "cpy313.difflib" 309), annotations := none, code := (.ref 254), closureTuple := .none, builtins := 0 }), #[]⟩
noncomputable def o_256_0 (P : Params) : Obj := tu
noncomputable def o_257_0 (P : Params) : Obj := ⟨.none, none, (.fields #[]), #[]⟩
noncomputable def o_258_0 (P : Params) : Obj := ⟨.type "tuple", none, (.seq (#[(q "self" 555), (q "b" 556)]) 0), #[]⟩
noncomputable def o_259_0 (P : Params) : Obj := tu
noncomputable def o_260_0 (P : Params) : Obj := ⟨.none, none, (.func { name := Str.ofString "set_seq2", qualname := Str.ofString "SequenceMatcher.set_seq2", params := a_20_4, body := .stmts b_20_4, scope := s_20_4, globals := 0, closure := [], defaults := .none, kwdefaults := .none, doc := .none, pyModule := .none, annotations := none, code := .none, closureTuple := .none, builtins := 0 }), #[]⟩
noncomputable def o_261_0 (P : Params) : Obj := ⟨.type "code", none, (.fields (#[(q "set_seq2" 552), (q "SequenceMatcher.set_seq2" 553), (q "/claim/cut.py" 554), (j 375), (j 2), (j 0), (j 0), (j 3), (.ref 256), (.bool true), (j 181), (.ref 257), .none, (.ref 258), (.ref 259), (.ref 260), (j 557), (j 375), (q "/claim/cut.py" 558)])), #[]⟩
noncomputable def o_262_0 (P : Params) : Obj := ⟨.type "function", none, (.func { name := Str.ofString "set_seq2", qualname := Str.ofString "SequenceMatcher.set_seq2", params := a_20_4, body := .stmts b_20_4, scope := s_20_4, globals := 3, closure := [], defaults := .none, kwdefaults := .none, doc := (.str d_20_4 559), pyModule := (q "cpy313.difflib" 309), annotations := none, code := (.ref 261), closureTuple := .none, builtins := 0 }), #[]⟩
noncomputable def o_263_0 (P : Params) : Obj := tu
noncomputable def o_264_0 (P : Params) : Obj := ⟨.none, none, (.fields #[]), #[]⟩
noncomputable def o_265_0 (P : Params) : Obj := ⟨.type "tuple", none, (.seq (#[(q "self" 564), (q "b" 565), (q "b2j" 566), (q "i" 567), (q "elt" 568), (q "indices" 569), (q "junk" 570), (q "isjunk" 571), (q "popular" 572), (q "n" 573), (q "ntest" 574), (q "idxs" 575)]) 0), #[]⟩
noncomputable def o_266_0 (P : Params) : Obj := tu
noncomputable def o_267_0 (P : Params) : Obj := ⟨.none, none, (.func { name := Str.ofString "__chain_b", qualname := Str.ofString "SequenceMatcher.__chain_b", params := a_20_5, body := .stmts b_20_5, scope := s_20_5, globals := 0, closure := [], defaults := .none, kwdefaults := .none, doc := .none, pyModule := .none, annotations := none, code := .none, closureTuple := .none, builtins := 0 }), #[]⟩
noncomputable def o_268_0 (P : Params) : Obj := ⟨.type "code", none, (.fields (#[(q "__chain_b" 561), (q "SequenceMatcher.__chain_b" 562), (q "/claim/cut.py" 563), (j 402), (j 1), (j 0), (j 0), (j 3), (.ref 263), (.bool true), (j 181), (.ref 264), .none, (.ref 265), (.ref 266), (.ref 267), (j 576), (j 402), (q "/claim/cut.py" 577)])), #[]⟩
noncomputable def o_269_0 (P : Params) : Obj := ⟨.type "function", none, (.func { name := Str.ofString "__chain_b", qualname := Str.ofString "SequenceMatcher.__chain_b", params := a_20_5, body := .stmts b_20_5, scope := s_20_5, globals := 3, closure := [], defaults := .none, kwdefaults := .none, doc := .none, pyModule := (q "cpy313.difflib" 309), annotations := none, code := (.ref 268), closureTuple := .none, builtins := 0 }), #[]⟩
noncomputable def o_270_0 (P : Params) : Obj := ⟨.type "tuple", none, (.seq (#[(.int (0) 579), .none, (.int (0) 580), .none]) 0), #[]⟩
noncomputable def o_271_0 (P : Params) : Obj := tu
noncomputable def o_272_0 (P : Params) : Obj := ⟨.none, none, (.fields #[]), #[]⟩
noncomputable def o_273_0 (P : Params) : Obj := ⟨.type "tuple", none, (.seq (#[(q "self" 584), (q "alo" 585), (q "ahi" 586), (q "blo" 587), (q "bhi" 588), (q "a" 589), (q "b" 590), (q "b2j" 591), (q "isbjunk" 592), (q "besti" 593), (q "bestj" 594), (q "bestsize" 595), (q "j2len" 596), (q "nothing" 597), (q "i" 598), (q "j2lenget" 599), (q "newj2len" 600), (q "j" 601), (q "k" 602)]) 0), #[]⟩
noncomputable def o_274_0 (P : Params) : Obj := tu
noncomputable def o_275_0 (P : Params) : Obj := ⟨.none, none, (.func { name := Str.ofString "find_longest_match", qualname := Str.ofString "SequenceMatcher.find_longest_match", params := a_20_6, body := .stmts b_20_6, scope := s_20_6, globals := 0, closure := [], defaults := .none, kwdefaults := .none, doc := .none, pyModule := .none, annotations := none, code := .none, closureTuple := .none, builtins := 0 }), #[]⟩
noncomputable def o_276_0 (P : Params) : Obj := ⟨.type "code", none, (.fields (#[(q "find_longest_match" 581), (q "SequenceMatcher.find_longest_match" 582), (q "/claim/cut.py" 583), (j 426), (j 5), (j 0), (j 0), (j 3), (.ref 271), (.bool true), (j 181), (.ref 272), .none, (.ref 273), (.ref 274), (.ref 275), (j 603), (j 426), (q "/claim/cut.py" 604)])), #[]⟩
noncomputable def o_277_0 (P : Params) : Obj := ⟨.type "function", none, (.func { name := Str.ofString "find_longest_match", qualname := Str.ofString "SequenceMatcher.find_longest_match", params := a_20_6, body := .stmts b_20_6, scope := s_20_6, globals := 3, closure := [], defaults := (.ref 270), kwdefaults := .none, doc := (.str d_20_6 605), pyModule := (q "cpy313.difflib" 309), annotations := none, code := (.ref 276), closureTuple := .none, builtins := 0 }), #[]⟩
noncomputable def o_278_0 (P : Params) : Obj := tu
noncomputable def o_279_0 (P : Params) : Obj := ⟨.none, none, (.fields #[]), #[]⟩
noncomputable def o_280_0 (P : Params) : Obj := ⟨.type "tuple", none, (.seq (#[(q "self" 610), (q "la" 611), (q "lb" 612), (q "queue" 613), (q "matching_blocks" 614), (q "alo" 615), (q "ahi" 616), (q "blo" 617), (q "bhi" 618), (q "i" 619), (q "j" 620), (q "k" 621), (q "x" 622), (q "i1" 623), (q "j1" 624), (q "k1" 625), (q "non_adjacent" 626), (q "i2" 627), (q "j2" 628), (q "k2" 629)]) 0), #[]⟩
noncomputable def o_281_0 (P : Params) : Obj := tu
noncomputable def o_282_0 (P : Params) : Obj := ⟨.none, none, (.func { name := Str.ofString "get_matching_blocks", qualname := Str.ofString "SequenceMatcher.get_matching_blocks", params := a_20_7, body := .stmts b_20_7, scope := s_20_7, globals := 0, closure := [], defaults := .none, kwdefaults := .none, doc := .none, pyModule := .none, annotations := none, code := .none, closureTuple := .none, builtins := 0 }), #[]⟩
noncomputable def o_283_0 (P : Params) : Obj := ⟨.type "code", none, (.fields (#[(q "get_matching_blocks" 607), (q "SequenceMatcher.get_matching_blocks" 608), (q "/claim/cut.py" 609), (j 501), (j 1), (j 0), (j 0), (j 3), (.ref 278), (.bool true), (j 181), (.ref 279), .none, (.ref 280), (.ref 281), (.ref 282), (j 630), (j 501), (q "/claim/cut.py" 631)])), #[]⟩
noncomputable def o_284_0 (P : Params) : Obj := ⟨.type "function", none, (.func { name := Str.ofString "get_matching_blocks", qualname := Str.ofString "SequenceMatcher.get_matching_blocks", params := a_20_7, body := .stmts b_20_7, scope := s_20_7, globals := 3, closure := [], defaults := .none, kwdefaults := .none, doc := (.str d_20_7 632), pyModule := (q "cpy313.difflib" 309), annotations := none, code := (.ref 283), closureTuple := .none, builtins := 0 }), #[]⟩
noncomputable def o_285_0 (P : Params) : Obj := tu
noncomputable def o_286_0 (P : Params) : Obj := ⟨.none, none, (.fields #[]), #[]⟩
noncomputable def o_287_0 (P : Params) : Obj := ⟨.type "tuple", none, (.seq (#[(q "self" 637), (q "i" 638), (q "j" 639), (q "answer" 640), (q "ai" 641), (q "bj" 642), (q "size" 643), (q "tag" 644)]) 0), #[]⟩
noncomputable def o_288_0 (P : Params) : Obj := tu
noncomputable def o_289_0 (P : Params) : Obj := ⟨.none, none, (.func { name := Str.ofString "get_opcodes", qualname := Str.ofString "SequenceMatcher.get_opcodes", params := a_20_8, body := .stmts b_20_8, scope := s_20_8, globals := 0, closure := [], defaults := .none, kwdefaults := .none, doc := .none, pyModule := .none, annotations := none, code := .none, closureTuple := .none, builtins := 0 }), #[]⟩
noncomputable def o_290_0 (P : Params) : Obj := ⟨.type "code", none, (.fields (#[(q "get_opcodes" 634), (q "SequenceMatcher.get_opcodes" 635), (q "/claim/cut.py" 636), (j 549), (j 1), (j 0), (j 0), (j 3), (.ref 285), (.bool true), (j 181), (.ref 286), .none, (.ref 287), (.ref 288), (.ref 289), (j 645), (j 549), (q "/claim/cut.py" 646)])), #[]⟩
noncomputable def o_291_0 (P : Params) : Obj := ⟨.type "function", none, (.func { name := Str.ofString "get_opcodes", qualname := Str.ofString "SequenceMatcher.get_opcodes", params := a_20_8, body := .stmts b_20_8, scope := s_20_8, globals := 3, closure := [], defaults := .none, kwdefaults := .none, doc := (.str d_20_8 647), pyModule := (q "cpy313.difflib" 309), annotations := none, code := (.ref 290), closureTuple := .none, builtins := 0 }), #[]⟩
noncomputable def o_292_0 (P : Params) : Obj := ⟨.type "tuple", none, (.seq (#[(.int (3) 649)]) 0), #[]⟩
noncomputable def o_293_0 (P : Params) : Obj := tu
noncomputable def o_294_0 (P : Params) : Obj := ⟨.none, none, (.fields #[]), #[]⟩
noncomputable def o_295_0 (P : Params) : Obj := ⟨.type "tuple", none, (.seq (#[(q "self" 653), (q "n" 654)]) 0), #[]⟩
noncomputable def o_296_0 (P : Params) : Obj := tu
noncomputable def o_297_0 (P : Params) : Obj := ⟨.none, none, (.func { name := Str.ofString "get_grouped_opcodes", qualname := Str.ofString "SequenceMatcher.get_grouped_opcodes", params := a_20_9, body := .stmts b_20_9, scope := s_20_9, globals := 0, closure := [], defaults := .none, kwdefaults := .none, doc := .none, pyModule := .none, annotations := none, code := .none, closureTuple := .none, builtins := 0 }), #[]⟩
noncomputable def o_298_0 (P : Params) : Obj := ⟨.type "code", none, (.fields (#[(q "get_grouped_opcodes" 650), (q "SequenceMatcher.get_grouped_opcodes" 651), (q "/claim/cut.py" 652), (j 596), (j 2), (j 0), (j 0), (j 3), (.ref 293), (.bool true), (j 181), (.ref 294), .none, (.ref 295), (.ref 296), (.ref 297), (j 655), (j 596), (q "/claim/cut.py" 656)])), #[]⟩
noncomputable def o_299_0 (P : Params) : Obj := ⟨.type "function", none, (.func { name := Str.ofString "get_grouped_opcodes", qualname := Str.ofString "SequenceMatcher.get_grouped_opcodes", params := a_20_9, body := .stmts b_20_9, scope := s_20_9, globals := 3, closure := [], defaults := (.ref 292), kwdefaults := .none, doc := .none, pyModule := (q "cpy313.difflib" 309), annotations := none, code := (.ref 298), closureTuple := .none, builtins := 0 }), #[]⟩
noncomputable def o_300_0 (P : Params) : Obj := tu
noncomputable def o_301_0 (P : Params) : Obj := ⟨.none, none, (.fields #[]), #[]⟩
noncomputable def o_302_0 (P : Params) : Obj := ⟨.type "tuple", none, (.seq (#[(q "self" 661), (q "matches" 662)]) 0), #[]⟩
noncomputable def o_303_0 (P : Params) : Obj := tu
noncomputable def o_304_0 (P : Params) : Obj := ⟨.none, none, (.func { name := Str.ofString "ratio", qualname := Str.ofString "SequenceMatcher.ratio", params := a_20_10, body := .stmts b_20_10, scope := s_20_10, globals := 0, closure := [], defaults := .none, kwdefaults := .none, doc := .none, pyModule := .none, annotations := none, code := .none, closureTuple := .none, builtins := 0 }), #[]⟩
noncomputable def o_305_0 (P : Params) : Obj := ⟨.type "code", none, (.fields (#[(q "ratio" 658), (q "SequenceMatcher.ratio" 659), (q "/claim/cut.py" 660), (j 599), (j 1), (j 0), (j 0), (j 3), (.ref 300), (.bool true), (j 181), (.ref 301), .none, (.ref 302), (.ref 303), (.ref 304), (j 663), (j 599), (q "/claim/cut.py" 664)])), #[]⟩
noncomputable def o_306_0 (P : Params) : Obj := ⟨.type "function", none, (.func { name := Str.ofString "ratio", qualname := Str.ofString "SequenceMatcher.ratio", params := a_20_10, body := .stmts b_20_10, scope := s_20_10, globals := 3, closure := [], defaults := .none, kwdefaults := .none, doc := (.str d_20_10 665), pyModule := (q "cpy313.difflib" 309), annotations := none, code := (.ref 305), closureTuple := .none, builtins := 0 }), #[]⟩
noncomputable def o_307_0 (P : Params) : Obj := tu
noncomputable def o_308_0 (P : Params) : Obj := ⟨.none, none, (.fields #[]), #[]⟩
noncomputable def o_309_0 (P : Params) : Obj := ⟨.type "tuple", none, (.seq (#[(q "self" 670)]) 0), #[]⟩
noncomputable def o_310_0 (P : Params) : Obj := tu
noncomputable def o_311_0 (P : Params) : Obj := ⟨.none, none, (.func { name := Str.ofString "quick_ratio", qualname := Str.ofString "SequenceMatcher.quick_ratio", params := a_20_11, body := .stmts b_20_11, scope := s_20_11, globals := 0, closure := [], defaults := .none, kwdefaults := .none, doc := .none, pyModule := .none, annotations := none, code := .none, closureTuple := .none, builtins := 0 }), #[]⟩
noncomputable def o_312_0 (P : Params) : Obj := ⟨.type "code", none, (.fields (#[(q "quick_ratio" 667), (q "SequenceMatcher.quick_ratio" 668), (q "/claim/cut.py" 669), (j 623), (j 1), (j 0), (j 0), (j 3), (.ref 307), (.bool true), (j 181), (.ref 308), .none, (.ref 309), (.ref 310), (.ref 311), (j 671), (j 623), (q "/claim/cut.py" 672)])), #[]⟩
noncomputable def o_313_0 (P : Params) : Obj := ⟨.type "function", none, (.func { name := Str.ofString "quick_ratio", qualname := Str.ofString "SequenceMatcher.quick_ratio", params := a_20_11, body := .stmts b_20_11, scope := s_20_11, globals := 3, closure := [], defaults := .none, kwdefaults := .none, doc := .none, pyModule := (q "cpy313.difflib" 309), annotations := none, code := (.ref 312), closureTuple := .none, builtins := 0 }), #[]⟩
noncomputable def o_314_0 (P : Params) : Obj := tu
noncomputable def o_315_0 (P : Params) : Obj := ⟨.none, none, (.fields #[]), #[]⟩
noncomputable def o_316_0 (P : Params) : Obj := ⟨.type "tuple", none, (.seq (#[(q "self" 677)]) 0), #[]⟩
noncomputable def o_317_0 (P : Params) : Obj := tu
noncomputable def o_318_0 (P : Params) : Obj := ⟨.none, none, (.func { name := Str.ofString "real_quick_ratio", qualname := Str.ofString "SequenceMatcher.real_quick_ratio", params := a_20_12, body := .stmts b_20_12, scope := s_20_12, globals := 0, closure := [], defaults := .none, kwdefaults := .none, doc := .none, pyModule := .none, annotations := none, code := .none, closureTuple := .none, builtins := 0 }), #[]⟩
noncomputable def o_319_0 (P : Params) : Obj := ⟨.type "code", none, (.fields (#[(q "real_quick_ratio" 674), (q "SequenceMatcher.real_quick_ratio" 675), (q "/claim/cut.py" 676), (j 626), (j 1), (j 0), (j 0), (j 3), (.ref 314), (.bool true), (j 181), (.ref 315), .none, (.ref 316), (.ref 317), (.ref 318), (j 678), (j 626), (q "/claim/cut.py" 679)])), #[]⟩
noncomputable def o_320_0 (P : Params) : Obj := ⟨.type "function", none, (.func { name := Str.ofString "real_quick_ratio", qualname := Str.ofString "SequenceMatcher.real_quick_ratio", params := a_20_12, body := .stmts b_20_12, scope := s_20_12, globals := 3, closure := [], defaults := .none, kwdefaults := .none, doc := .none, pyModule := (q "cpy313.difflib" 309), annotations := none, code := (.ref 319), closureTuple := .none, builtins := 0 }), #[]⟩
noncomputable def o_321_0 (P : Params) : Obj := ⟨.type "tuple", none, (.seq (#[(q "a" 681), (q "autojunk" 682), (q "b" 683), (q "b2j" 684), (q "bjunk" 685), (q "bpopular" 686), (q "fullbcount" 687), (q "isjunk" 688), (q "matching_blocks" 689), (q "opcodes" 690)]) 0), #[]⟩
noncomputable def o_322_0 (P : Params) : Obj := ⟨.type "dict", none, (.dict (#[ke P "__module__" 511 (q "cpy313.difflib" 309), ke P "__firstlineno__" 515 (.int (236) 514), ke P "__doc__" 517 (.str d_20 516), ke P "__init__" 532 (.ref 241), ke P "set_seqs" 542 (.ref 248), ke P "set_seq1" 551 (.ref 255), ke P "set_seq2" 560 (.ref 262), ke P "_SequenceMatcher__chain_b" 578 (.ref 269), ke P "find_longest_match" 606 (.ref 277), ke P "get_matching_blocks" 633 (.ref 284), ke P "get_opcodes" 648 (.ref 291), ke P "get_grouped_opcodes" 657 (.ref 299), ke P "ratio" 666 (.ref 306), ke P "quick_ratio" 673 (.ref 313), ke P "real_quick_ratio" 680 (.ref 320), ke P "__static_attributes__" 691 (.ref 321), ke P "__dict__" 693 (.ref 324), ke P "__weakref__" 695 (.ref 325)]) 3), #[]⟩
noncomputable def o_323_0 (P : Params) : Obj := ⟨.type "type", none, (.cls { name := Str.ofString "SequenceMatcher", bases := [(.type "object")], mro := [(.ref 323), (.type "object")], ns := 322, qualname := Str.ofString "SequenceMatcher", hasDict := true, slotNames := [], subclasses := [], abstract := false, collection := none, hasDel := false }), #[none, none, (some (q "SequenceMatcher" 504)), (some (q "SequenceMatcher" 512)), (some (.builtin "object.__new__")), (some (.bool true))]⟩
noncomputable def o_324_0 (P : Params) : Obj := ⟨.type "getset_descriptor", none, (.fields (#[(q "__dict__" 692), (.ref 323), (.builtin "function.__dict__"), (.builtin "function.__dict__#set")])), #[]⟩
noncomputable def o_325_0 (P : Params) : Obj := ⟨.type "getset_descriptor", none, (.fields (#[(q "__weakref__" 694), (.ref 323), (.builtin "ExceptionGroup.__weakref__"), .none])), #[]⟩
noncomputable def o_326_0 (P : Params) : Obj := ⟨.type "super", none, (.fields (#[(.ref 323), (.ref 323), (.ref 323)])), #[]⟩
noncomputable def o_327_0 (P : Params) : Obj := ⟨.type "builtin_function_or_method", none, (.fields (#[(.builtin "object.__init_subclass__"), (.ref 323)])), #[]⟩
noncomputable def T_20 (P : Params) : BT := (nd (boot_o_0 P) (nd (boot_o_1 P) (nd (o_3_5 P) (nd (boot_o_7 P) (nd (o_15_0 P) (nd (o_31_0 P) (nd (o_63_0 P) (nd (o_127_0 P) (lf (o_255_0 P)) .nil) (nd (o_191_0 P) (lf (o_319_0 P)) .nil)) (nd (o_95_0 P) (nd (o_159_0 P) (lf (o_287_0 P)) .nil) (lf (o_223_0 P)))) (nd (o_47_0 P) (nd (o_79_0 P) (nd (o_143_0 P) (lf (o_271_0 P)) .nil) (lf (o_207_0 P))) (nd (o_111_0 P) (nd (o_175_0 P) (lf (o_303_0 P)) .nil) (lf (o_239_0 P))))) (nd (o_23_0 P) (nd (o_39_0 P) (nd (o_71_0 P) (nd (o_135_0 P) (lf (o_263_0 P)) .nil) (nd (o_199_0 P) (lf (o_327_0 P)) .nil)) (nd (o_103_0 P) (nd (o_167_0 P) (lf (o_295_0 P)) .nil) (lf (o_231_0 P)))) (nd (o_55_0 P) (nd (o_87_0 P) (nd (o_151_0 P) (lf (o_279_0 P)) .nil) (lf (o_215_0 P))) (nd (o_119_0 P) (nd (o_183_0 P) (lf (o_311_0 P)) .nil) (lf (o_247_0 P)))))) (nd (o_11_0 P) (nd (o_19_0 P) (nd (o_35_0 P) (nd (o_67_0 P) (nd (o_131_0 P) (lf (o_259_0 P)) .nil) (nd (o_195_0 P) (lf (o_323_0 P)) .nil)) (nd (o_99_0 P) (nd (o_163_0 P) (lf (o_291_0 P)) .nil) (lf (o_227_0 P)))) (nd (o_51_0 P) (nd (o_83_0 P) (nd (o_147_0 P) (lf (o_275_0 P)) .nil) (lf (o_211_0 P))) (nd (o_115_0 P) (nd (o_179_0 P) (lf (o_307_0 P)) .nil) (lf (o_243_0 P))))) (nd (o_27_0 P) (nd (o_43_0 P) (nd (o_75_0 P) (nd (o_139_0 P) (lf (o_267_0 P)) .nil) (lf (o_203_0 P))) (nd (o_107_0 P) (nd (o_171_0 P) (lf (o_299_0 P)) .nil) (lf (o_235_0 P)))) (nd (o_59_0 P) (nd (o_91_0 P) (nd (o_155_0 P) (lf (o_283_0 P)) .nil) (lf (o_219_0 P))) (nd (o_123_0 P) (nd (o_187_0 P) (lf (o_315_0 P)) .nil) (lf (o_251_0 P))))))) (nd (boot_o_5 P) (nd (boot_o_9 P) (nd (o_17_0 P) (nd (o_33_0 P) (nd (o_65_0 P) (nd (o_129_0 P) (lf (o_257_0 P)) .nil) (nd (o_193_0 P) (lf (o_321_0 P)) .nil)) (nd (o_97_0 P) (nd (o_161_0 P) (lf (o_289_0 P)) .nil) (lf (o_225_0 P)))) (nd (o_49_0 P) (nd (o_81_0 P) (nd (o_145_0 P) (lf (o_273_0 P)) .nil) (lf (o_209_0 P))) (nd (o_113_0 P) (nd (o_177_0 P) (lf (o_305_0 P)) .nil) (lf (o_241_0 P))))) (nd (o_25_0 P) (nd (o_41_0 P) (nd (o_73_0 P) (nd (o_137_0 P) (lf (o_265_0 P)) .nil) (lf (o_201_0 P))) (nd (o_105_0 P) (nd (o_169_0 P) (lf (o_297_0 P)) .nil) (lf (o_233_0 P)))) (nd (o_57_0 P) (nd (o_89_0 P) (nd (o_153_0 P) (lf (o_281_0 P)) .nil) (lf (o_217_0 P))) (nd (o_121_0 P) (nd (o_185_0 P) (lf (o_313_0 P)) .nil) (lf (o_249_0 P)))))) (nd (o_13_0 P) (nd (o_21_0 P) (nd (o_37_0 P) (nd (o_69_0 P) (nd (o_133_0 P) (lf (o_261_0 P)) .nil) (nd (o_197_0 P) (lf (o_325_0 P)) .nil)) (nd (o_101_0 P) (nd (o_165_0 P) (lf (o_293_0 P)) .nil) (lf (o_229_0 P)))) (nd (o_53_0 P) (nd (o_85_0 P) (nd (o_149_0 P) (lf (o_277_0 P)) .nil) (lf (o_213_0 P))) (nd (o_117_0 P) (nd (o_181_0 P) (lf (o_309_0 P)) .nil) (lf (o_245_0 P))))) (nd (o_29_0 P) (nd (o_45_0 P) (nd (o_77_0 P) (nd (o_141_0 P) (lf (o_269_0 P)) .nil) (lf (o_205_0 P))) (nd (o_109_0 P) (nd (o_173_0 P) (lf (o_301_0 P)) .nil) (lf (o_237_0 P)))) (nd (o_61_0 P) (nd (o_93_0 P) (nd (o_157_0 P) (lf (o_285_0 P)) .nil) (lf (o_221_0 P))) (nd (o_125_0 P) (nd (o_189_0 P) (lf (o_317_0 P)) .nil) (lf (o_253_0 P)))))))) (nd (boot_o_2 P) (nd (boot_o_4 P) (nd (boot_o_8 P) (nd (o_16_0 P) (nd (o_32_0 P) (nd (o_64_0 P) (nd (o_128_0 P) (lf (o_256_0 P)) .nil) (nd (o_192_0 P) (lf (o_320_0 P)) .nil)) (nd (o_96_0 P) (nd (o_160_0 P) (lf (o_288_0 P)) .nil) (lf (o_224_0 P)))) (nd (o_48_0 P) (nd (o_80_0 P) (nd (o_144_0 P) (lf (o_272_0 P)) .nil) (lf (o_208_0 P))) (nd (o_112_0 P) (nd (o_176_0 P) (lf (o_304_0 P)) .nil) (lf (o_240_0 P))))) (nd (o_24_0 P) (nd (o_40_0 P) (nd (o_72_0 P) (nd (o_136_0 P) (lf (o_264_0 P)) .nil) (lf (o_200_0 P))) (nd (o_104_0 P) (nd (o_168_0 P) (lf (o_296_0 P)) .nil) (lf (o_232_0 P)))) (nd (o_56_0 P) (nd (o_88_0 P) (nd (o_152_0 P) (lf (o_280_0 P)) .nil) (lf (o_216_0 P))) (nd (o_120_0 P) (nd (o_184_0 P) (lf (o_312_0 P)) .nil) (lf (o_248_0 P)))))) (nd (o_12_6 P) (nd (o_20_0 P) (nd (o_36_0 P) (nd (o_68_0 P) (nd (o_132_0 P) (lf (o_260_0 P)) .nil) (nd (o_196_0 P) (lf (o_324_0 P)) .nil)) (nd (o_100_0 P) (nd (o_164_0 P) (lf (o_292_0 P)) .nil) (lf (o_228_0 P)))) (nd (o_52_0 P) (nd (o_84_0 P) (nd (o_148_0 P) (lf (o_276_0 P)) .nil) (lf (o_212_0 P))) (nd (o_116_0 P) (nd (o_180_0 P) (lf (o_308_0 P)) .nil) (lf (o_244_0 P))))) (nd (o_28_0 P) (nd (o_44_0 P) (nd (o_76_0 P) (nd (o_140_0 P) (lf (o_268_0 P)) .nil) (lf (o_204_0 P))) (nd (o_108_0 P) (nd (o_172_0 P) (lf (o_300_0 P)) .nil) (lf (o_236_0 P)))) (nd (o_60_0 P) (nd (o_92_0 P) (nd (o_156_0 P) (lf (o_284_0 P)) .nil) (lf (o_220_0 P))) (nd (o_124_0 P) (nd (o_188_0 P) (lf (o_316_0 P)) .nil) (lf (o_252_0 P))))))) (nd (boot_o_6 P) (nd (boot_o_10 P) (nd (o_18_0 P) (nd (o_34_0 P) (nd (o_66_0 P) (nd (o_130_0 P) (lf (o_258_0 P)) .nil) (nd (o_194_0 P) (lf (o_322_0 P)) .nil)) (nd (o_98_0 P) (nd (o_162_0 P) (lf (o_290_0 P)) .nil) (lf (o_226_0 P)))) (nd (o_50_0 P) (nd (o_82_0 P) (nd (o_146_0 P) (lf (o_274_0 P)) .nil) (lf (o_210_0 P))) (nd (o_114_0 P) (nd (o_178_0 P) (lf (o_306_0 P)) .nil) (lf (o_242_0 P))))) (nd (o_26_0 P) (nd (o_42_0 P) (nd (o_74_0 P) (nd (o_138_0 P) (lf (o_266_0 P)) .nil) (lf (o_202_0 P))) (nd (o_106_0 P) (nd (o_170_0 P) (lf (o_298_0 P)) .nil) (lf (o_234_0 P)))) (nd (o_58_0 P) (nd (o_90_0 P) (nd (o_154_0 P) (lf (o_282_0 P)) .nil) (lf (o_218_0 P))) (nd (o_122_0 P) (nd (o_186_0 P) (lf (o_314_0 P)) .nil) (lf (o_250_0 P)))))) (nd (o_14_0 P) (nd (o_22_0 P) (nd (o_38_0 P) (nd (o_70_0 P) (nd (o_134_0 P) (lf (o_262_0 P)) .nil) (nd (o_198_0 P) (lf (o_326_0 P)) .nil)) (nd (o_102_0 P) (nd (o_166_0 P) (lf (o_294_0 P)) .nil) (lf (o_230_0 P)))) (nd (o_54_0 P) (nd (o_86_0 P) (nd (o_150_0 P) (lf (o_278_0 P)) .nil) (lf (o_214_0 P))) (nd (o_118_0 P) (nd (o_182_0 P) (lf (o_310_0 P)) .nil) (lf (o_246_0 P))))) (nd (o_30_0 P) (nd (o_46_0 P) (nd (o_78_0 P) (nd (o_142_0 P) (lf (o_270_0 P)) .nil) (lf (o_206_0 P))) (nd (o_110_0 P) (nd (o_174_0 P) (lf (o_302_0 P)) .nil) (lf (o_238_0 P)))) (nd (o_62_0 P) (nd (o_94_0 P) (nd (o_158_0 P) (lf (o_286_0 P)) .nil) (lf (o_222_0 P))) (nd (o_126_0 P) (nd (o_190_0 P) (lf (o_318_0 P)) .nil) (lf (o_254_0 P)))))))))
noncomputable def S_20 (w : World) (os : OsState) : SharedT := ⟨T_20 w.params, 328, {}, #[], {}, 698, os⟩
noncomputable def o_3_6 (P : Params) : Obj := ⟨.type "dict", none, (.dict (#[ke P "__name__" 165 (q "law_kt0099_01" 698), ke P "__doc__" 166 .none, ke P "__package__" 167 .none, ke P "__loader__" 168 (.builtin "__main__.__loader__#opaque"), ke P "__spec__" 169 .none, ke P "__annotations__" 170 (.ref 6), ke P "__builtins__" 171 (.ref 4), ke P "__file__" 173 (q "/claim/cut.py" 172), ke P "__cached__" 174 .none, ke P "_wall" 193 (.ref 21), ke P "bytes_types" 196 (.ref 22), ke P "_bytes_from_decode_data" 203 (.ref 29), ke P "Error" 223 (.ref 39), ke P "_ascii_buffer" 231 (.ref 49), ke P "_buffer" 239 (.ref 56), ke P "_truth" 247 (.ref 63), ke P "_B64" 249 (.bytes #[65, 66, 67, 68, 69, 70, 71, 72, 73, 74, 75, 76, 77, 78, 79, 80, 81, 82, 83, 84, 85, 86, 87, 88, 89, 90, 97, 98, 99, 100, 101, 102, 103, 104, 105, 106, 107, 108, 109, 110, 111, 112, 113, 114, 115, 116, 117, 118, 119, 120, 121, 122, 48, 49, 50, 51, 52, 53, 54, 55, 56, 57, 43, 47] 248), ke P "_b64_value" 256 (.ref 70), ke P "a2b_base64" 272 (.ref 78), ke P "b2a_base64" 286 (.ref 86), ke P "b64encode" 298 (.ref 94), ke P "b64decode" 308 (.ref 102), ke P "_tuplegetter" 367 (.ref 141), ke P "Match" 495 (.ref 216), ke P "_calculate_ratio" 503 (.ref 226), ke P "SequenceMatcher" 697 (.ref 323), ke P "_law_row" 708 (.ref 334), ke P "_law_octets" 714 (.ref 339), ke P "_law_strewn" 726 (.ref 346), ke P "_law_codes" 741 (.ref 353), ke P "_law_bytes" 747 (.ref 358), ke P "_law_read" 755 (.ref 365), ke P "law" 761 (.ref 370)]) 33), #[]⟩
noncomputable def o_12_7 (P : Params) : Obj := ⟨.none, none, (.fields (#[(j 1), (j 0), (.ref 20), (j 6), (j 0), (.ref 28), (j 19), (j 0), (.ref 35), (j 21), (j 0), (.ref 48), (j 32), (j 0), (.ref 55), (j 39), (j 0), (.ref 62), (j 45), (j 0), (.ref 69), (j 57), (j 0), (.ref 77), (j 111), (j 0), (.ref 85), (j 134), (j 0), (.ref 93), (j 146), (j 0), (.ref 101), (j 171), (j 0), (.ref 108), (j 189), (j 0), (.ref 152), (j 232), (j 0), (.ref 225), (j 236), (j 0), (.ref 232), (j 629), (j 0), (.ref 333), (j 635), (j 0), (.ref 338), (j 642), (j 0), (.ref 345), (j 652), (j 0), (.ref 352), (j 672), (j 0), (.ref 357), (j 674), (j 0), (.ref 364), (j 679), (j 0), (.ref 369)])), #[]⟩
noncomputable def o_328_0 (P : Params) : Obj := tu
noncomputable def o_329_0 (P : Params) : Obj := ⟨.none, none, (.fields #[]), #[]⟩
noncomputable def o_330_0 (P : Params) : Obj := ⟨.type "tuple", none, (.seq (#[(q "script" 703), (q "row" 704), (q "x" 705)]) 0), #[]⟩
noncomputable def o_331_0 (P : Params) : Obj := tu
noncomputable def o_332_0 (P : Params) : Obj := ⟨.none, none, (.func { name := Str.ofString "_law_row", qualname := Str.ofString "_law_row", params := a_22, body := .stmts b_22, scope := s_22, globals := 0, closure := [], defaults := .none, kwdefaults := .none, doc := .none, pyModule := .none, annotations := none, code := .none, closureTuple := .none, builtins := 0 }), #[]⟩
noncomputable def o_333_0 (P : Params) : Obj := ⟨.type "code", none, (.fields (#[(q "_law_row" 700), (q "_law_row" 701), (q "/claim/cut.py" 702), (j 629), (j 1), (j 0), (j 0), (j 3), (.ref 328), (.bool true), (j 181), (.ref 329), .none, (.ref 330), (.ref 331), (.ref 332), (j 706), (j 629), (q "/claim/cut.py" 707)])), #[]⟩
noncomputable def o_334_0 (P : Params) : Obj := ⟨.type "function", none, (.func { name := Str.ofString "_law_row", qualname := Str.ofString "_law_row", params := a_22, body := .stmts b_22, scope := s_22, globals := 3, closure := [], defaults := .none, kwdefaults := .none, doc := .none, pyModule := (q "law_kt0099_01" 698), annotations := none, code := (.ref 333), closureTuple := .none, builtins := 0 }), #[]⟩
noncomputable def o_335_0 (P : Params) : Obj := tu
noncomputable def o_336_0 (P : Params) : Obj := ⟨.none, none, (.fields #[]), #[]⟩
noncomputable def o_337_0 (P : Params) : Obj := ⟨.none, none, (.func { name := Str.ofString "_law_octets", qualname := Str.ofString "_law_octets", params := a_23, body := .stmts b_23, scope := s_23, globals := 0, closure := [], defaults := .none, kwdefaults := .none, doc := .none, pyModule := .none, annotations := none, code := .none, closureTuple := .none, builtins := 0 }), #[]⟩
noncomputable def o_338_0 (P : Params) : Obj := ⟨.type "code", none, (.fields (#[(q "_law_octets" 709), (q "_law_octets" 710), (q "/claim/cut.py" 711), (j 635), (j 1), (j 0), (j 0), (j 3), (.ref 335), (.bool true), (j 181), (.ref 336), .none, .none, .none, (.ref 337), (j 712), (j 635), (q "/claim/cut.py" 713)])), #[]⟩
noncomputable def o_339_0 (P : Params) : Obj := ⟨.type "function", none, (.func { name := Str.ofString "_law_octets", qualname := Str.ofString "_law_octets", params := a_23, body := .stmts b_23, scope := s_23, globals := 3, closure := [], defaults := .none, kwdefaults := .none, doc := .none, pyModule := (q "law_kt0099_01" 698), annotations := none, code := (.ref 338), closureTuple := .none, builtins := 0 }), #[]⟩
noncomputable def o_340_0 (P : Params) : Obj := tu
noncomputable def o_341_0 (P : Params) : Obj := ⟨.none, none, (.fields #[]), #[]⟩
noncomputable def o_342_0 (P : Params) : Obj := ⟨.type "tuple", none, (.seq (#[(q "clean" 718), (q "script" 719), (q "strewn" 720), (q "kept" 721), (q "k" 722), (q "deed" 723)]) 0), #[]⟩
noncomputable def o_343_0 (P : Params) : Obj := tu
noncomputable def o_344_0 (P : Params) : Obj := ⟨.none, none, (.func { name := Str.ofString "_law_strewn", qualname := Str.ofString "_law_strewn", params := a_24, body := .stmts b_24, scope := s_24, globals := 0, closure := [], defaults := .none, kwdefaults := .none, doc := .none, pyModule := .none, annotations := none, code := .none, closureTuple := .none, builtins := 0 }), #[]⟩
noncomputable def o_345_0 (P : Params) : Obj := ⟨.type "code", none, (.fields (#[(q "_law_strewn" 715), (q "_law_strewn" 716), (q "/claim/cut.py" 717), (j 642), (j 2), (j 0), (j 0), (j 3), (.ref 340), (.bool true), (j 181), (.ref 341), .none, (.ref 342), (.ref 343), (.ref 344), (j 724), (j 642), (q "/claim/cut.py" 725)])), #[]⟩
noncomputable def o_346_0 (P : Params) : Obj := ⟨.type "function", none, (.func { name := Str.ofString "_law_strewn", qualname := Str.ofString "_law_strewn", params := a_24, body := .stmts b_24, scope := s_24, globals := 3, closure := [], defaults := .none, kwdefaults := .none, doc := .none, pyModule := (q "law_kt0099_01" 698), annotations := none, code := (.ref 345), closureTuple := .none, builtins := 0 }), #[]⟩
noncomputable def o_347_0 (P : Params) : Obj := tu
noncomputable def o_348_0 (P : Params) : Obj := ⟨.none, none, (.fields #[]), #[]⟩
noncomputable def o_349_0 (P : Params) : Obj := ⟨.type "tuple", none, (.seq (#[(q "clean" 730), (q "strewn" 731), (q "kept" 732), (q "told" 733), (q "i" 734), (q "j" 735), (q "k" 736), (q "m" 737), (q "before" 738)]) 0), #[]⟩
noncomputable def o_350_0 (P : Params) : Obj := tu
noncomputable def o_351_0 (P : Params) : Obj := ⟨.none, none, (.func { name := Str.ofString "_law_codes", qualname := Str.ofString "_law_codes", params := a_25, body := .stmts b_25, scope := s_25, globals := 0, closure := [], defaults := .none, kwdefaults := .none, doc := .none, pyModule := .none, annotations := none, code := .none, closureTuple := .none, builtins := 0 }), #[]⟩
noncomputable def o_352_0 (P : Params) : Obj := ⟨.type "code", none, (.fields (#[(q "_law_codes" 727), (q "_law_codes" 728), (q "/claim/cut.py" 729), (j 652), (j 3), (j 0), (j 0), (j 3), (.ref 347), (.bool true), (j 181), (.ref 348), .none, (.ref 349), (.ref 350), (.ref 351), (j 739), (j 652), (q "/claim/cut.py" 740)])), #[]⟩
noncomputable def o_353_0 (P : Params) : Obj := ⟨.type "function", none, (.func { name := Str.ofString "_law_codes", qualname := Str.ofString "_law_codes", params := a_25, body := .stmts b_25, scope := s_25, globals := 3, closure := [], defaults := .none, kwdefaults := .none, doc := .none, pyModule := (q "law_kt0099_01" 698), annotations := none, code := (.ref 352), closureTuple := .none, builtins := 0 }), #[]⟩
noncomputable def o_354_0 (P : Params) : Obj := tu
noncomputable def o_355_0 (P : Params) : Obj := ⟨.none, none, (.fields #[]), #[]⟩
noncomputable def o_356_0 (P : Params) : Obj := ⟨.none, none, (.func { name := Str.ofString "_law_bytes", qualname := Str.ofString "_law_bytes", params := a_26, body := .stmts b_26, scope := s_26, globals := 0, closure := [], defaults := .none, kwdefaults := .none, doc := .none, pyModule := .none, annotations := none, code := .none, closureTuple := .none, builtins := 0 }), #[]⟩
noncomputable def o_357_0 (P : Params) : Obj := ⟨.type "code", none, (.fields (#[(q "_law_bytes" 742), (q "_law_bytes" 743), (q "/claim/cut.py" 744), (j 672), (j 1), (j 0), (j 0), (j 3), (.ref 354), (.bool true), (j 181), (.ref 355), .none, .none, .none, (.ref 356), (j 745), (j 672), (q "/claim/cut.py" 746)])), #[]⟩
noncomputable def o_358_0 (P : Params) : Obj := ⟨.type "function", none, (.func { name := Str.ofString "_law_bytes", qualname := Str.ofString "_law_bytes", params := a_26, body := .stmts b_26, scope := s_26, globals := 3, closure := [], defaults := .none, kwdefaults := .none, doc := .none, pyModule := (q "law_kt0099_01" 698), annotations := none, code := (.ref 357), closureTuple := .none, builtins := 0 }), #[]⟩
noncomputable def o_359_0 (P : Params) : Obj := tu
noncomputable def o_360_0 (P : Params) : Obj := ⟨.none, none, (.fields #[]), #[]⟩
noncomputable def o_361_0 (P : Params) : Obj := ⟨.type "tuple", none, (.seq (#[(q "text" 751), (q "strictly" 752)]) 0), #[]⟩
noncomputable def o_362_0 (P : Params) : Obj := tu
noncomputable def o_363_0 (P : Params) : Obj := ⟨.none, none, (.func { name := Str.ofString "_law_read", qualname := Str.ofString "_law_read", params := a_27, body := .stmts b_27, scope := s_27, globals := 0, closure := [], defaults := .none, kwdefaults := .none, doc := .none, pyModule := .none, annotations := none, code := .none, closureTuple := .none, builtins := 0 }), #[]⟩
noncomputable def o_364_0 (P : Params) : Obj := ⟨.type "code", none, (.fields (#[(q "_law_read" 748), (q "_law_read" 749), (q "/claim/cut.py" 750), (j 674), (j 2), (j 0), (j 0), (j 3), (.ref 359), (.bool true), (j 181), (.ref 360), .none, (.ref 361), (.ref 362), (.ref 363), (j 753), (j 674), (q "/claim/cut.py" 754)])), #[]⟩
noncomputable def o_365_0 (P : Params) : Obj := ⟨.type "function", none, (.func { name := Str.ofString "_law_read", qualname := Str.ofString "_law_read", params := a_27, body := .stmts b_27, scope := s_27, globals := 3, closure := [], defaults := .none, kwdefaults := .none, doc := .none, pyModule := (q "law_kt0099_01" 698), annotations := none, code := (.ref 364), closureTuple := .none, builtins := 0 }), #[]⟩
noncomputable def o_366_0 (P : Params) : Obj := tu
noncomputable def o_367_0 (P : Params) : Obj := ⟨.none, none, (.fields #[]), #[]⟩
noncomputable def o_368_0 (P : Params) : Obj := ⟨.none, none, (.func { name := Str.ofString "law", qualname := Str.ofString "law", params := a_28, body := .stmts b_28, scope := s_28, globals := 0, closure := [], defaults := .none, kwdefaults := .none, doc := .none, pyModule := .none, annotations := none, code := .none, closureTuple := .none, builtins := 0 }), #[]⟩
noncomputable def o_369_0 (P : Params) : Obj := ⟨.type "code", none, (.fields (#[(q "law" 756), (q "law" 757), (q "/claim/cut.py" 758), (j 679), (j 1), (j 0), (j 0), (j 3), (.ref 366), (.bool true), (j 181), (.ref 367), .none, .none, .none, (.ref 368), (j 759), (j 679), (q "/claim/cut.py" 760)])), #[]⟩
noncomputable def o_370_0 (P : Params) : Obj := ⟨.type "function", none, (.func { name := Str.ofString "law", qualname := Str.ofString "law", params := a_28, body := .stmts b_28, scope := s_28, globals := 3, closure := [], defaults := .none, kwdefaults := .none, doc := .none, pyModule := (q "law_kt0099_01" 698), annotations := none, code := (.ref 369), closureTuple := .none, builtins := 0 }), #[]⟩
noncomputable def T_28 (P : Params) : BT := (nd (boot_o_0 P) (nd (boot_o_1 P) (nd (o_3_6 P) (nd (boot_o_7 P) (nd (o_15_0 P) (nd (o_31_0 P) (nd (o_63_0 P) (nd (o_127_0 P) (lf (o_255_0 P)) .nil) (nd (o_191_0 P) (lf (o_319_0 P)) .nil)) (nd (o_95_0 P) (nd (o_159_0 P) (lf (o_287_0 P)) .nil) (nd (o_223_0 P) (lf (o_351_0 P)) .nil))) (nd (o_47_0 P) (nd (o_79_0 P) (nd (o_143_0 P) (lf (o_271_0 P)) .nil) (nd (o_207_0 P) (lf (o_335_0 P)) .nil)) (nd (o_111_0 P) (nd (o_175_0 P) (lf (o_303_0 P)) .nil) (nd (o_239_0 P) (lf (o_367_0 P)) .nil)))) (nd (o_23_0 P) (nd (o_39_0 P) (nd (o_71_0 P) (nd (o_135_0 P) (lf (o_263_0 P)) .nil) (nd (o_199_0 P) (lf (o_327_0 P)) .nil)) (nd (o_103_0 P) (nd (o_167_0 P) (lf (o_295_0 P)) .nil) (nd (o_231_0 P) (lf (o_359_0 P)) .nil))) (nd (o_55_0 P) (nd (o_87_0 P) (nd (o_151_0 P) (lf (o_279_0 P)) .nil) (nd (o_215_0 P) (lf (o_343_0 P)) .nil)) (nd (o_119_0 P) (nd (o_183_0 P) (lf (o_311_0 P)) .nil) (lf (o_247_0 P)))))) (nd (o_11_0 P) (nd (o_19_0 P) (nd (o_35_0 P) (nd (o_67_0 P) (nd (o_131_0 P) (lf (o_259_0 P)) .nil) (nd (o_195_0 P) (lf (o_323_0 P)) .nil)) (nd (o_99_0 P) (nd (o_163_0 P) (lf (o_291_0 P)) .nil) (nd (o_227_0 P) (lf (o_355_0 P)) .nil))) (nd (o_51_0 P) (nd (o_83_0 P) (nd (o_147_0 P) (lf (o_275_0 P)) .nil) (nd (o_211_0 P) (lf (o_339_0 P)) .nil)) (nd (o_115_0 P) (nd (o_179_0 P) (lf (o_307_0 P)) .nil) (lf (o_243_0 P))))) (nd (o_27_0 P) (nd (o_43_0 P) (nd (o_75_0 P) (nd (o_139_0 P) (lf (o_267_0 P)) .nil) (nd (o_203_0 P) (lf (o_331_0 P)) .nil)) (nd (o_107_0 P) (nd (o_171_0 P) (lf (o_299_0 P)) .nil) (nd (o_235_0 P) (lf (o_363_0 P)) .nil))) (nd (o_59_0 P) (nd (o_91_0 P) (nd (o_155_0 P) (lf (o_283_0 P)) .nil) (nd (o_219_0 P) (lf (o_347_0 P)) .nil)) (nd (o_123_0 P) (nd (o_187_0 P) (lf (o_315_0 P)) .nil) (lf (o_251_0 P))))))) (nd (boot_o_5 P) (nd (boot_o_9 P) (nd (o_17_0 P) (nd (o_33_0 P) (nd (o_65_0 P) (nd (o_129_0 P) (lf (o_257_0 P)) .nil) (nd (o_193_0 P) (lf (o_321_0 P)) .nil)) (nd (o_97_0 P) (nd (o_161_0 P) (lf (o_289_0 P)) .nil) (nd (o_225_0 P) (lf (o_353_0 P)) .nil))) (nd (o_49_0 P) (nd (o_81_0 P) (nd (o_145_0 P) (lf (o_273_0 P)) .nil) (nd (o_209_0 P) (lf (o_337_0 P)) .nil)) (nd (o_113_0 P) (nd (o_177_0 P) (lf (o_305_0 P)) .nil) (nd (o_241_0 P) (lf (o_369_0 P)) .nil)))) (nd (o_25_0 P) (nd (o_41_0 P) (nd (o_73_0 P) (nd (o_137_0 P) (lf (o_265_0 P)) .nil) (nd (o_201_0 P) (lf (o_329_0 P)) .nil)) (nd (o_105_0 P) (nd (o_169_0 P) (lf (o_297_0 P)) .nil) (nd (o_233_0 P) (lf (o_361_0 P)) .nil))) (nd (o_57_0 P) (nd (o_89_0 P) (nd (o_153_0 P) (lf (o_281_0 P)) .nil) (nd (o_217_0 P) (lf (o_345_0 P)) .nil)) (nd (o_121_0 P) (nd (o_185_0 P) (lf (o_313_0 P)) .nil) (lf (o_249_0 P)))))) (nd (o_13_0 P) (nd (o_21_0 P) (nd (o_37_0 P) (nd (o_69_0 P) (nd (o_133_0 P) (lf (o_261_0 P)) .nil) (nd (o_197_0 P) (lf (o_325_0 P)) .nil)) (nd (o_101_0 P) (nd (o_165_0 P) (lf (o_293_0 P)) .nil) (nd (o_229_0 P) (lf (o_357_0 P)) .nil))) (nd (o_53_0 P) (nd (o_85_0 P) (nd (o_149_0 P) (lf (o_277_0 P)) .nil) (nd (o_213_0 P) (lf (o_341_0 P)) .nil)) (nd (o_117_0 P) (nd (o_181_0 P) (lf (o_309_0 P)) .nil) (lf (o_245_0 P))))) (nd (o_29_0 P) (nd (o_45_0 P) (nd (o_77_0 P) (nd (o_141_0 P) (lf (o_269_0 P)) .nil) (nd (o_205_0 P) (lf (o_333_0 P)) .nil)) (nd (o_109_0 P) (nd (o_173_0 P) (lf (o_301_0 P)) .nil) (nd (o_237_0 P) (lf (o_365_0 P)) .nil))) (nd (o_61_0 P) (nd (o_93_0 P) (nd (o_157_0 P) (lf (o_285_0 P)) .nil) (nd (o_221_0 P) (lf (o_349_0 P)) .nil)) (nd (o_125_0 P) (nd (o_189_0 P) (lf (o_317_0 P)) .nil) (lf (o_253_0 P)))))))) (nd (boot_o_2 P) (nd (boot_o_4 P) (nd (boot_o_8 P) (nd (o_16_0 P) (nd (o_32_0 P) (nd (o_64_0 P) (nd (o_128_0 P) (lf (o_256_0 P)) .nil) (nd (o_192_0 P) (lf (o_320_0 P)) .nil)) (nd (o_96_0 P) (nd (o_160_0 P) (lf (o_288_0 P)) .nil) (nd (o_224_0 P) (lf (o_352_0 P)) .nil))) (nd (o_48_0 P) (nd (o_80_0 P) (nd (o_144_0 P) (lf (o_272_0 P)) .nil) (nd (o_208_0 P) (lf (o_336_0 P)) .nil)) (nd (o_112_0 P) (nd (o_176_0 P) (lf (o_304_0 P)) .nil) (nd (o_240_0 P) (lf (o_368_0 P)) .nil)))) (nd (o_24_0 P) (nd (o_40_0 P) (nd (o_72_0 P) (nd (o_136_0 P) (lf (o_264_0 P)) .nil) (nd (o_200_0 P) (lf (o_328_0 P)) .nil)) (nd (o_104_0 P) (nd (o_168_0 P) (lf (o_296_0 P)) .nil) (nd (o_232_0 P) (lf (o_360_0 P)) .nil))) (nd (o_56_0 P) (nd (o_88_0 P) (nd (o_152_0 P) (lf (o_280_0 P)) .nil) (nd (o_216_0 P) (lf (o_344_0 P)) .nil)) (nd (o_120_0 P) (nd (o_184_0 P) (lf (o_312_0 P)) .nil) (lf (o_248_0 P)))))) (nd (o_12_7 P) (nd (o_20_0 P) (nd (o_36_0 P) (nd (o_68_0 P) (nd (o_132_0 P) (lf (o_260_0 P)) .nil) (nd (o_196_0 P) (lf (o_324_0 P)) .nil)) (nd (o_100_0 P) (nd (o_164_0 P) (lf (o_292_0 P)) .nil) (nd (o_228_0 P) (lf (o_356_0 P)) .nil))) (nd (o_52_0 P) (nd (o_84_0 P) (nd (o_148_0 P) (lf (o_276_0 P)) .nil) (nd (o_212_0 P) (lf (o_340_0 P)) .nil)) (nd (o_116_0 P) (nd (o_180_0 P) (lf (o_308_0 P)) .nil) (lf (o_244_0 P))))) (nd (o_28_0 P) (nd (o_44_0 P) (nd (o_76_0 P) (nd (o_140_0 P) (lf (o_268_0 P)) .nil) (nd (o_204_0 P) (lf (o_332_0 P)) .nil)) (nd (o_108_0 P) (nd (o_172_0 P) (lf (o_300_0 P)) .nil) (nd (o_236_0 P) (lf (o_364_0 P)) .nil))) (nd (o_60_0 P) (nd (o_92_0 P) (nd (o_156_0 P) (lf (o_284_0 P)) .nil) (nd (o_220_0 P) (lf (o_348_0 P)) .nil)) (nd (o_124_0 P) (nd (o_188_0 P) (lf (o_316_0 P)) .nil) (lf (o_252_0 P))))))) (nd (boot_o_6 P) (nd (boot_o_10 P) (nd (o_18_0 P) (nd (o_34_0 P) (nd (o_66_0 P) (nd (o_130_0 P) (lf (o_258_0 P)) .nil) (nd (o_194_0 P) (lf (o_322_0 P)) .nil)) (nd (o_98_0 P) (nd (o_162_0 P) (lf (o_290_0 P)) .nil) (nd (o_226_0 P) (lf (o_354_0 P)) .nil))) (nd (o_50_0 P) (nd (o_82_0 P) (nd (o_146_0 P) (lf (o_274_0 P)) .nil) (nd (o_210_0 P) (lf (o_338_0 P)) .nil)) (nd (o_114_0 P) (nd (o_178_0 P) (lf (o_306_0 P)) .nil) (nd (o_242_0 P) (lf (o_370_0 P)) .nil)))) (nd (o_26_0 P) (nd (o_42_0 P) (nd (o_74_0 P) (nd (o_138_0 P) (lf (o_266_0 P)) .nil) (nd (o_202_0 P) (lf (o_330_0 P)) .nil)) (nd (o_106_0 P) (nd (o_170_0 P) (lf (o_298_0 P)) .nil) (nd (o_234_0 P) (lf (o_362_0 P)) .nil))) (nd (o_58_0 P) (nd (o_90_0 P) (nd (o_154_0 P) (lf (o_282_0 P)) .nil) (nd (o_218_0 P) (lf (o_346_0 P)) .nil)) (nd (o_122_0 P) (nd (o_186_0 P) (lf (o_314_0 P)) .nil) (lf (o_250_0 P)))))) (nd (o_14_0 P) (nd (o_22_0 P) (nd (o_38_0 P) (nd (o_70_0 P) (nd (o_134_0 P) (lf (o_262_0 P)) .nil) (nd (o_198_0 P) (lf (o_326_0 P)) .nil)) (nd (o_102_0 P) (nd (o_166_0 P) (lf (o_294_0 P)) .nil) (nd (o_230_0 P) (lf (o_358_0 P)) .nil))) (nd (o_54_0 P) (nd (o_86_0 P) (nd (o_150_0 P) (lf (o_278_0 P)) .nil) (nd (o_214_0 P) (lf (o_342_0 P)) .nil)) (nd (o_118_0 P) (nd (o_182_0 P) (lf (o_310_0 P)) .nil) (lf (o_246_0 P))))) (nd (o_30_0 P) (nd (o_46_0 P) (nd (o_78_0 P) (nd (o_142_0 P) (lf (o_270_0 P)) .nil) (nd (o_206_0 P) (lf (o_334_0 P)) .nil)) (nd (o_110_0 P) (nd (o_174_0 P) (lf (o_302_0 P)) .nil) (nd (o_238_0 P) (lf (o_366_0 P)) .nil))) (nd (o_62_0 P) (nd (o_94_0 P) (nd (o_158_0 P) (lf (o_286_0 P)) .nil) (nd (o_222_0 P) (lf (o_350_0 P)) .nil)) (nd (o_126_0 P) (nd (o_190_0 P) (lf (o_318_0 P)) .nil) (lf (o_254_0 P)))))))))
noncomputable def S_28 (w : World) (os : OsState) : SharedT := ⟨T_28 w.params, 371, {}, #[], {}, 762, os⟩
noncomputable def H_fin (P : Params) : Heap := ⟨#[boot_o_0 P, boot_o_1 P, boot_o_2 P, o_3_6 P, boot_o_4 P, boot_o_5 P, boot_o_6 P, boot_o_7 P, boot_o_8 P, boot_o_9 P, boot_o_10 P, o_11_0 P, o_12_7 P, o_13_0 P, o_14_0 P, o_15_0 P, o_16_0 P, o_17_0 P, o_18_0 P, o_19_0 P, o_20_0 P, o_21_0 P, o_22_0 P, o_23_0 P, o_24_0 P, o_25_0 P, o_26_0 P, o_27_0 P, o_28_0 P, o_29_0 P, o_30_0 P, o_31_0 P, o_32_0 P, o_33_0 P, o_34_0 P, o_35_0 P, o_36_0 P, o_37_0 P, o_38_0 P, o_39_0 P, o_40_0 P, o_41_0 P, o_42_0 P, o_43_0 P, o_44_0 P, o_45_0 P, o_46_0 P, o_47_0 P, o_48_0 P, o_49_0 P, o_50_0 P, o_51_0 P, o_52_0 P, o_53_0 P, o_54_0 P, o_55_0 P, o_56_0 P, o_57_0 P, o_58_0 P, o_59_0 P, o_60_0 P, o_61_0 P, o_62_0 P, o_63_0 P, o_64_0 P, o_65_0 P, o_66_0 P, o_67_0 P, o_68_0 P, o_69_0 P, o_70_0 P, o_71_0 P, o_72_0 P, o_73_0 P, o_74_0 P, o_75_0 P, o_76_0 P, o_77_0 P, o_78_0 P, o_79_0 P, o_80_0 P, o_81_0 P, o_82_0 P, o_83_0 P, o_84_0 P, o_85_0 P, o_86_0 P, o_87_0 P, o_88_0 P, o_89_0 P, o_90_0 P, o_91_0 P, o_92_0 P, o_93_0 P, o_94_0 P, o_95_0 P, o_96_0 P, o_97_0 P, o_98_0 P, o_99_0 P, o_100_0 P, o_101_0 P, o_102_0 P, o_103_0 P, o_104_0 P, o_105_0 P, o_106_0 P, o_107_0 P, o_108_0 P, o_109_0 P, o_110_0 P, o_111_0 P, o_112_0 P, o_113_0 P, o_114_0 P, o_115_0 P, o_116_0 P, o_117_0 P, o_118_0 P, o_119_0 P, o_120_0 P, o_121_0 P, o_122_0 P, o_123_0 P, o_124_0 P, o_125_0 P, o_126_0 P, o_127_0 P, o_128_0 P, o_129_0 P, o_130_0 P, o_131_0 P, o_132_0 P, o_133_0 P, o_134_0 P, o_135_0 P, o_136_0 P, o_137_0 P, o_138_0 P, o_139_0 P, o_140_0 P, o_141_0 P, o_142_0 P, o_143_0 P, o_144_0 P, o_145_0 P, o_146_0 P, o_147_0 P, o_148_0 P, o_149_0 P, o_150_0 P, o_151_0 P, o_152_0 P, o_153_0 P, o_154_0 P, o_155_0 P, o_156_0 P, o_157_0 P, o_158_0 P, o_159_0 P, o_160_0 P, o_161_0 P, o_162_0 P, o_163_0 P, o_164_0 P, o_165_0 P, o_166_0 P, o_167_0 P, o_168_0 P, o_169_0 P, o_170_0 P, o_171_0 P, o_172_0 P, o_173_0 P, o_174_0 P, o_175_0 P, o_176_0 P, o_177_0 P, o_178_0 P, o_179_0 P, o_180_0 P, o_181_0 P, o_182_0 P, o_183_0 P, o_184_0 P, o_185_0 P, o_186_0 P, o_187_0 P, o_188_0 P, o_189_0 P, o_190_0 P, o_191_0 P, o_192_0 P, o_193_0 P, o_194_0 P, o_195_0 P, o_196_0 P, o_197_0 P, o_198_0 P, o_199_0 P, o_200_0 P, o_201_0 P, o_202_0 P, o_203_0 P, o_204_0 P, o_205_0 P, o_206_0 P, o_207_0 P, o_208_0 P, o_209_0 P, o_210_0 P, o_211_0 P, o_212_0 P, o_213_0 P, o_214_0 P, o_215_0 P, o_216_0 P, o_217_0 P, o_218_0 P, o_219_0 P, o_220_0 P, o_221_0 P, o_222_0 P, o_223_0 P, o_224_0 P, o_225_0 P, o_226_0 P, o_227_0 P, o_228_0 P, o_229_0 P, o_230_0 P, o_231_0 P, o_232_0 P, o_233_0 P, o_234_0 P, o_235_0 P, o_236_0 P, o_237_0 P, o_238_0 P, o_239_0 P, o_240_0 P, o_241_0 P, o_242_0 P, o_243_0 P, o_244_0 P, o_245_0 P, o_246_0 P, o_247_0 P, o_248_0 P, o_249_0 P, o_250_0 P, o_251_0 P, o_252_0 P, o_253_0 P, o_254_0 P, o_255_0 P, o_256_0 P, o_257_0 P, o_258_0 P, o_259_0 P, o_260_0 P, o_261_0 P, o_262_0 P, o_263_0 P, o_264_0 P, o_265_0 P, o_266_0 P, o_267_0 P, o_268_0 P, o_269_0 P, o_270_0 P, o_271_0 P, o_272_0 P, o_273_0 P, o_274_0 P, o_275_0 P, o_276_0 P, o_277_0 P, o_278_0 P, o_279_0 P, o_280_0 P, o_281_0 P, o_282_0 P, o_283_0 P, o_284_0 P, o_285_0 P, o_286_0 P, o_287_0 P, o_288_0 P, o_289_0 P, o_290_0 P, o_291_0 P, o_292_0 P, o_293_0 P, o_294_0 P, o_295_0 P, o_296_0 P, o_297_0 P, o_298_0 P, o_299_0 P, o_300_0 P, o_301_0 P, o_302_0 P, o_303_0 P, o_304_0 P, o_305_0 P, o_306_0 P, o_307_0 P, o_308_0 P, o_309_0 P, o_310_0 P, o_311_0 P, o_312_0 P, o_313_0 P, o_314_0 P, o_315_0 P, o_316_0 P, o_317_0 P, o_318_0 P, o_319_0 P, o_320_0 P, o_321_0 P, o_322_0 P, o_323_0 P, o_324_0 P, o_325_0 P, o_326_0 P, o_327_0 P, o_328_0 P, o_329_0 P, o_330_0 P, o_331_0 P, o_332_0 P, o_333_0 P, o_334_0 P, o_335_0 P, o_336_0 P, o_337_0 P, o_338_0 P, o_339_0 P, o_340_0 P, o_341_0 P, o_342_0 P, o_343_0 P, o_344_0 P, o_345_0 P, o_346_0 P, o_347_0 P, o_348_0 P, o_349_0 P, o_350_0 P, o_351_0 P, o_352_0 P, o_353_0 P, o_354_0 P, o_355_0 P, o_356_0 P, o_357_0 P, o_358_0 P, o_359_0 P, o_360_0 P, o_361_0 P, o_362_0 P, o_363_0 P, o_364_0 P, o_365_0 P, o_366_0 P, o_367_0 P, o_368_0 P, o_369_0 P, o_370_0 P], {}⟩
noncomputable def S_fin (w : World) (os : OsState) : SharedT := ⟨T_28 w.params, 371, {}, #[], {}, 762, os⟩
noncomputable def K0 (P : Params) : Frag := (nat_lit 2, boot_o_2 P) :: (nat_lit 3, o_3_6 P) :: (nat_lit 22, o_22_0 P) :: (nat_lit 28, o_28_0 P) :: (nat_lit 29, o_29_0 P) :: (nat_lit 30, o_30_0 P) :: (nat_lit 38, o_38_0 P) :: (nat_lit 39, o_39_0 P) :: (nat_lit 48, o_48_0 P) :: (nat_lit 49, o_49_0 P) :: (nat_lit 55, o_55_0 P) :: (nat_lit 56, o_56_0 P) :: (nat_lit 62, o_62_0 P) :: (nat_lit 63, o_63_0 P) :: (nat_lit 69, o_69_0 P) :: (nat_lit 70, o_70_0 P) :: (nat_lit 71, o_71_0 P) :: (nat_lit 77, o_77_0 P) :: (nat_lit 78, o_78_0 P) :: (nat_lit 79, o_79_0 P) :: (nat_lit 85, o_85_0 P) :: (nat_lit 86, o_86_0 P) :: (nat_lit 87, o_87_0 P) :: (nat_lit 93, o_93_0 P) :: (nat_lit 94, o_94_0 P) :: (nat_lit 95, o_95_0 P) :: (nat_lit 101, o_101_0 P) :: (nat_lit 102, o_102_0 P) :: (nat_lit 140, o_140_0 P) :: (nat_lit 141, o_141_0 P) :: (nat_lit 146, o_146_0 P) :: (nat_lit 149, o_149_0 P) :: (nat_lit 156, o_156_0 P) :: (nat_lit 162, o_162_0 P) :: (nat_lit 163, o_163_0 P) :: (nat_lit 169, o_169_0 P) :: (nat_lit 170, o_170_0 P) :: (nat_lit 171, o_171_0 P) :: (nat_lit 172, o_172_0 P) :: (nat_lit 173, o_173_0 P) :: (nat_lit 204, o_204_0 P) :: (nat_lit 205, o_205_0 P) :: (nat_lit 207, o_207_0 P) :: (nat_lit 208, o_208_0 P) :: (nat_lit 210, o_210_0 P) :: (nat_lit 211, o_211_0 P) :: (nat_lit 215, o_215_0 P) :: (nat_lit 216, o_216_0 P) :: (nat_lit 217, o_217_0 P) :: (nat_lit 234, o_234_0 P) :: (nat_lit 240, o_240_0 P) :: (nat_lit 241, o_241_0 P) :: (nat_lit 247, o_247_0 P) :: (nat_lit 248, o_248_0 P) :: (nat_lit 254, o_254_0 P) :: (nat_lit 255, o_255_0 P) :: (nat_lit 261, o_261_0 P) :: (nat_lit 262, o_262_0 P) :: (nat_lit 268, o_268_0 P) :: (nat_lit 269, o_269_0 P) :: (nat_lit 270, o_270_0 P) :: (nat_lit 276, o_276_0 P) :: (nat_lit 277, o_277_0 P) :: (nat_lit 283, o_283_0 P) :: (nat_lit 284, o_284_0 P) :: (nat_lit 290, o_290_0 P) :: (nat_lit 291, o_291_0 P) :: (nat_lit 322, o_322_0 P) :: (nat_lit 323, o_323_0 P) :: (nat_lit 333, o_333_0 P) :: (nat_lit 334, o_334_0 P) :: (nat_lit 338, o_338_0 P) :: (nat_lit 339, o_339_0 P) :: (nat_lit 345, o_345_0 P) :: (nat_lit 346, o_346_0 P) :: (nat_lit 352, o_352_0 P) :: (nat_lit 353, o_353_0 P) :: (nat_lit 357, o_357_0 P) :: (nat_lit 358, o_358_0 P) :: (nat_lit 364, o_364_0 P) :: (nat_lit 365, o_365_0 P) :: (nat_lit 369, o_369_0 P) :: (nat_lit 370, o_370_0 P) :: []
set_option maxHeartbeats 4000000 in
noncomputable def K : Params → Frag := fun P => by
  refine (fun (_ : K0 P = ?x) => ?x) ?h
  case h => conv => (lhs; delta K0 o_3_6 o_22_0 o_28_0 o_29_0 o_30_0 o_38_0 o_39_0 o_48_0 o_49_0 o_55_0 o_56_0 o_62_0 o_63_0 o_69_0 o_70_0 o_71_0 o_77_0 o_78_0 o_79_0 o_85_0 o_86_0 o_87_0 o_93_0 o_94_0 o_95_0 o_101_0 o_102_0 o_140_0 o_141_0 o_146_0 o_149_0 o_156_0 o_162_0 o_163_0 o_169_0 o_170_0 o_171_0 o_172_0 o_173_0 o_204_0 o_205_0 o_207_0 o_208_0 o_210_0 o_211_0 o_215_0 o_216_0 o_217_0 o_234_0 o_240_0 o_241_0 o_247_0 o_248_0 o_254_0 o_255_0 o_261_0 o_262_0 o_268_0 o_269_0 o_270_0 o_276_0 o_277_0 o_283_0 o_284_0 o_290_0 o_291_0 o_322_0 o_323_0 o_333_0 o_334_0 o_338_0 o_339_0 o_345_0 o_346_0 o_352_0 o_353_0 o_357_0 o_358_0 o_364_0 o_365_0 o_369_0 o_370_0 boot_o_2 a_10 a_11 a_12 a_14 a_15 a_18_4 a_18_5 a_20_1 a_20_2 a_20_3 a_20_4 a_20_5 a_20_6 a_20_7 a_20_8 a_22 a_23 a_24 a_25 a_26 a_27 a_28 a_3 a_6 a_7 a_8 b_10 b_11 b_12 b_14 b_15 b_18_4 b_18_5 b_20_1 b_20_2 b_20_3 b_20_4 b_20_5 b_20_6 b_20_7 b_20_8 b_22 b_23 b_24 b_25 b_26 b_27 b_28 b_3 b_6 b_7 b_8 d_14 d_15 d_18 d_18_4 d_18_5 s_10 s_11 s_12 s_14 s_15 s_18_4 s_18_5 s_20_1 s_20_2 s_20_3 s_20_4 s_20_5 s_20_6 s_20_7 s_20_8 s_22 s_23 s_24 s_25 s_26 s_27 s_28 s_3 s_6 s_7 s_8 q j ke tu lit)
noncomputable def tops (i k : Nat) : List Stmt := (pw.main.body.drop i).take k
@[reducible] noncomputable def bE : List Stmt := behindTheImports pw
@[reducible] noncomputable def envE : Env := { scope := pw.main.scope, locals := mainNs, globals := mainNs, cells := [], code := .ref 13, frame := some 14 }
@[reducible] noncomputable def cE : Code := .body bE envE
noncomputable abbrev q0 : Pos := ⟨0, 0, 0, 0⟩
noncomputable abbrev annE : Option Value := some (.ref 6)
@[reducible] noncomputable def SR := PySem.W.Fast.tw10110043849684766642
@[reducible] noncomputable def TT := PySem.W.Fast.tw14364793385576792824
end HD
end
section
open PySem PySem.W PyProof.Rows
namespace HD
set_option maxRecDepth 100000
@[reducible] noncomputable def v_0 : Stmt := lit (topSt 0)
@[reducible] noncomputable def v_2 : Stmt := lit (topSt 2)
@[reducible] noncomputable def v_3 : Stmt := lit (topSt 3)
@[reducible] noncomputable def v_5 : Stmt := lit (topSt 5)
@[reducible] noncomputable def v_6 : Stmt := lit (topSt 6)
@[reducible] noncomputable def v_7 : Stmt := lit (topSt 7)
@[reducible] noncomputable def v_8 : Stmt := lit (topSt 8)
@[reducible] noncomputable def v_9 : Stmt := lit (topSt 9)
@[reducible] noncomputable def v_10 : Stmt := lit (topSt 10)
@[reducible] noncomputable def v_17 : Stmt := lit (topSt 17)
@[reducible] noncomputable def v_18 : Stmt := lit (topSt 18)
@[reducible] noncomputable def v_19 : Stmt := lit (topSt 19)
@[reducible] noncomputable def v_20 : Stmt := lit (topSt 20)
@[reducible] noncomputable def v_22 : Stmt := lit (topSt 22)
@[reducible] noncomputable def v_23 : Stmt := lit (topSt 23)
@[reducible] noncomputable def v_24 : Stmt := lit (topSt 24)
@[reducible] noncomputable def v_25 : Stmt := lit (topSt 25)
@[reducible] noncomputable def v_26 : Stmt := lit (topSt 26)
@[reducible] noncomputable def v_27 : Stmt := lit (topSt 27)
@[reducible] noncomputable def v_28 : Stmt := lit (topSt 28)
noncomputable def view : Program := by
  refine (fun (_ : [v_0, v_2, v_3, v_5, v_6, v_7, v_8, v_9, v_10, v_17, v_18, v_19, v_20, v_22, v_23, v_24, v_25, v_26, v_27, v_28] = ?x) => ({ pw with main := { pw.main with body := ?x } } : Program)) ?h
  case h => conv => (lhs; delta v_0 v_2 v_3 v_5 v_6 v_7 v_8 v_9 v_10 v_17 v_18 v_19 v_20 v_22 v_23 v_24 v_25 v_26 v_27 v_28 q j ke tu lit)
noncomputable abbrev loose : List Str := [Str.ofString "bytes_types", Str.ofString "a2b_base64", Str.ofString "b2a_base64", Str.ofString "b64encode", Str.ofString "b64decode", Str.ofString "_tuplegetter", Str.ofString "Match", Str.ofString "SequenceMatcher"]
noncomputable abbrev s1 (w : World) (os : OsState) : Shared := ⟨H_fin w.params, Array.mk [], {}, 762, os⟩
noncomputable abbrev kAddrs : List Addr := [nat_lit 2, nat_lit 3, nat_lit 22, nat_lit 28, nat_lit 29, nat_lit 30, nat_lit 38, nat_lit 39, nat_lit 48, nat_lit 49, nat_lit 55, nat_lit 56, nat_lit 62, nat_lit 63, nat_lit 69, nat_lit 70, nat_lit 71, nat_lit 77, nat_lit 78, nat_lit 79, nat_lit 85, nat_lit 86, nat_lit 87, nat_lit 93, nat_lit 94, nat_lit 95, nat_lit 101, nat_lit 102, nat_lit 140, nat_lit 141, nat_lit 146, nat_lit 149, nat_lit 156, nat_lit 162, nat_lit 163, nat_lit 169, nat_lit 170, nat_lit 171, nat_lit 172, nat_lit 173, nat_lit 204, nat_lit 205, nat_lit 207, nat_lit 208, nat_lit 210, nat_lit 211, nat_lit 215, nat_lit 216, nat_lit 217, nat_lit 234, nat_lit 240, nat_lit 241, nat_lit 247, nat_lit 248, nat_lit 254, nat_lit 255, nat_lit 261, nat_lit 262, nat_lit 268, nat_lit 269, nat_lit 270, nat_lit 276, nat_lit 277, nat_lit 283, nat_lit 284, nat_lit 290, nat_lit 291, nat_lit 322, nat_lit 323, nat_lit 333, nat_lit 334, nat_lit 338, nat_lit 339, nat_lit 345, nat_lit 346, nat_lit 352, nat_lit 353, nat_lit 357, nat_lit 358, nat_lit 364, nat_lit 365, nat_lit 369, nat_lit 370]
end HD
end
section
open PySem PySem.W PyProof.Rows
set_option profiler true
namespace HD
noncomputable section
set_option maxRecDepth 100000
theorem blk (w : World) (os : OsState) : PySem.W.Fast.tw14374325043358763698 TT pw w 11 annE 1 1 ⟨H_pre w.params, Array.mk [], {}, 187, os⟩ (blockOf bE envE cE q0 [topFrame q0]) = some (.next, (S_blk w os).abs, cE, q0) := by kernel_rfl!
theorem pre (w : World) (os : OsState) : PySem.W.Fast.tw15667345088766844465 TT pw w 11 annE 12 ⟨PySem.W.boot_heap w.params, Array.mk [], PySem.W.boot_drawn, PySem.W.boot_toks, os⟩ (topStub pw) = some (⟨H_pre w.params, Array.mk [], {}, 187, os⟩, ⟨PySem.W.Fast.tw11892475500146522536 TT cE, cE, q0, [topFrame q0]⟩) := by kernel_rfl!
theorem finE (w : World) (os : OsState) : PySem.W.Fast.tw14082659384304107361 TT pw w 11 annE 2 (S_28 w os).abs ⟨doneF .next, cE, ⟨679, 0, 695, 70⟩, [topFrame q0]⟩ = some (s1 w os) := by kernel_rfl!
theorem bE_eq : bE = tops 0 10 ++ (tops 10 7 ++ (tops 17 1 ++ (tops 18 1 ++ (tops 19 1 ++ (tops 20 1 ++ (tops 21 8 ++ [])))))) := by kernel_rfl!
theorem size (w : World) : ((PySem.W.boot_heap w.params).isNs mainGlobals && (Array.mk [] : Array GenState).size == 0, (PySem.W.boot_heap w.params).objs.size, (PySem.W.boot_heap w.params).nsMap mainGlobals "__annotations__") = (true, 11, annE) := by kernel_rfl!
theorem k1 (w : World) (os : OsState) : (staticsOk (importedModules pw.main.body) (PySem.W.boot_heap w.params) (H_fin w.params) && namesBound pw (H_fin w.params) && gensDone (s1 w os) && laidKept (PySem.W.boot_heap w.params) (H_fin w.params)) = true := by kernel_rfl!
theorem k11 (w : World) (os : OsState) : kAddrs.map (s1 w os).heap.get? = (K w.params).map fun p => some p.2 := by kernel_rfl!
noncomputable abbrev rw0 : RowW := OpenRow.toRowW PySem.Challenge.rw_kt0099_01.row
noncomputable abbrev HK : Hook := kHook K kAddrs (fun _ => by kernel_rfl!)
noncomputable abbrev Xt : Shared → Bool := fun s => xlAt view [] s && recOk (RowW.records rw0) s
theorem k2 (w : World) (os : OsState) : PySem.W.Fast.tw5160383126252970620 ((recsOf view).map (·.name)) (ownsOf view) [] { s1 w os with gens := #[] } = expectedOf view := by kernel_rfl!
theorem k3 (w : World) (os : OsState) : (s1 w os).heap.bltView = bltViewBooted := by kernel_rfl!
theorem k4 (w : World) (os : OsState) : (PySem.W.Fast.tw10880121769531294198 (s1 w os).heap (looseW view loose) ((recsOf view).map (·.name)) ((litsOf view).map (·.1)) ((clssOf view (looseW view loose)).map (·.name)) && (s1 w os).heap.accountedOkI (importedModules pw.main.body) && (s1 w os).heap.isNs mainGlobals && (s1 w os).heap.isNs builtinsNs && tablesOk view (s1 w os).heap && Xt (s1 w os) && (if true = true then (s1 w os).gens.size == 0 else !leftWithCleanup (s1 w os).gens)) = true := by kernel_rfl!
theorem k5 (w : World) (os : OsState) : PySem.W.Fast.tw479339242167458305 view (s1 w os) = true := by kernel_rfl!
theorem k6 (w : World) (os : OsState) : PySem.W.Fast.tw16090120013241838585 view (drecsOf view) (s1 w os) = pinGoodD (drecsOf view) := by kernel_rfl!
theorem k7 (w : World) (os : OsState) : PySem.W.Fast.tw2386780881361962483 view (looseW view loose) (s1 w os) = plainGoodE view (looseW view loose) := by kernel_rfl!
theorem k8 (w : World) (os : OsState) : PySem.W.Fast.tw11698064438423848299 view loose (s1 w os) = plainGoodD view loose := by kernel_rfl!
theorem k9 (w : World) (os : OsState) : PySem.W.Fast.tw7317090234206586261 view (s1 w os) = wideGood view := by kernel_rfl!
theorem k10 (w : World) (os : OsState) : PySem.W.Fast.tw7369524293546568484 view loose (s1 w os) = clsGoodW view loose := by kernel_rfl!
end
end HD
end
section
open PySem PySem.W PyProof.Rows
namespace HD
set_option maxRecDepth 100000 in
theorem p1 (w : World) (os : OsState) : SR TT pw w 11 annE 1 378 (S_blk w os) (piecesOf (tops 0 10) envE cE ⟨0, 0, 0, 0⟩ [topFrame q0]) = some (.next, S_9 w os, cE, ⟨44, 0, 44, 4⟩) := by
  kernel_rfl!
end HD
end
section
open PySem PySem.W PyProof.Rows
namespace HD
set_option maxRecDepth 100000 in
theorem p2 (w : World) (os : OsState) : SR TT pw w 11 annE 1 196 (S_9 w os) (piecesOf (tops 10 7) envE cE ⟨44, 0, 44, 4⟩ [topFrame q0]) = some (.next, S_16 w os, cE, ⟨170, 0, 170, 8⟩) := by
  kernel_rfl!
end HD
end
section
open PySem PySem.W PyProof.Rows
namespace HD
set_option maxRecDepth 100000 in
theorem p3 (w : World) (os : OsState) : SR TT pw w 11 annE 1 324 (S_16 w os) (piecesOf (tops 17 1) envE cE ⟨170, 0, 170, 8⟩ [topFrame q0]) = some (.next, S_17 w os, cE, ⟨171, 0, 188, 54⟩) := by
  kernel_rfl!
end HD
end
section
open PySem PySem.W PyProof.Rows
namespace HD
set_option maxRecDepth 100000 in
theorem p4 (w : World) (os : OsState) : SR TT pw w 11 annE 1 1047 (S_17 w os) (piecesOf (tops 18 1) envE cE ⟨171, 0, 188, 54⟩ [topFrame q0]) = some (.next, S_18 w os, cE, ⟨189, 0, 231, 54⟩) := by
  kernel_rfl!
end HD
end
section
open PySem PySem.W PyProof.Rows
namespace HD
set_option maxRecDepth 100000 in
theorem p5 (w : World) (os : OsState) : SR TT pw w 11 annE 1 31 (S_18 w os) (piecesOf (tops 19 1) envE cE ⟨189, 0, 231, 54⟩ [topFrame q0]) = some (.next, S_19 w os, cE, ⟨232, 0, 235, 14⟩) := by
  kernel_rfl!
end HD
end
section
open PySem PySem.W PyProof.Rows
namespace HD
universe u
noncomputable def anyF {α : Type u} (as : Array α) (p : α → Bool) (i j : Nat) : Bool :=
  @Bool.rec (fun _ => Bool) (Array.any as p i j) (PySem.W.R.anyR as.toList p) (Nat.beq i 0 && Nat.beq j as.size)
theorem any_eq : @Array.any.{u} = @anyF.{u} := by
  funext α as p i j
  unfold anyF
  cases h : (Nat.beq i 0 && Nat.beq j as.size) with
  | false => rfl
  | true =>
    rw [Bool.and_eq_true] at h
    have h1 := Nat.eq_of_beq_eq_true h.1
    have h2 := Nat.eq_of_beq_eq_true h.2
    subst h1; subst h2
    show as.any p = PySem.W.R.anyR as.toList p
    rw [← PySem.W.R.anyR_eq, Array.any_toList]
noncomputable def tbG (f : Builtin) (id : String) : Option Builtin := @ite _ (id = "type.__new__") (PySem.W.S.strDecS id "type.__new__") (some f) (TT id)
theorem tt_new : TT "type.__new__" = some PySem.W.Fast.tw4202317264376624991 := by kernel_rfl!
theorem tb_eq {f : Builtin} (h : PySem.W.Fast.tw4202317264376624991 = f) : TT = tbG f := by
  funext id
  unfold tbG
  split
  · rename_i e
    subst e
    exact tt_new.trans (congrArg some h)
  · rfl
theorem top20 : tops 20 1 = [setDoc (topSt 20) docN] := by
  rw [← docN_eq]
  kernel_rfl!
theorem by_tb {α : Type} (F : (String → Option Builtin) → α) (r : α) (f : Builtin) (h : PySem.W.Fast.tw4202317264376624991 = f) (g : F (tbG f) = r) : F TT = r := by
  rw [tb_eq h]; exact g
end HD
end
section
open PySem PySem.W PyProof.Rows
namespace HD
set_option maxRecDepth 100000 in
theorem p6 (w : World) (os : OsState) : SR TT pw w 11 annE 1 657 (S_19 w os) (piecesOf (tops 20 1) envE cE ⟨232, 0, 235, 14⟩ [topFrame q0]) = some (.next, S_20 w os, cE, ⟨236, 0, 627, 16⟩) := by
  rw [top20]
  refine by_tb (fun tb => SR tb pw w 11 annE 1 657 (S_19 w os) (piecesOf [setDoc (topSt 20) docN] envE cE ⟨232, 0, 235, 14⟩ [topFrame q0])) _ ?f ?h ?g
  case h =>
    unfold PySem.W.Fast.tw4202317264376624991
    rw [any_eq]
  case g =>
    show SR (tbG _) pw w 11 annE 1 657 (S_19 w os) (piecesOf [setDoc (topSt 20) docN] envE cE ⟨232, 0, 235, 14⟩ [topFrame q0]) = _
    kernel_rfl!
end HD
end
section
open PySem PySem.W PyProof.Rows
namespace HD
set_option maxRecDepth 100000 in
theorem p7 (w : World) (os : OsState) : SR TT pw w 11 annE 1 220 (S_20 w os) (piecesOf (tops 21 8) envE cE ⟨236, 0, 627, 16⟩ [topFrame q0]) = some (.next, S_28 w os, cE, ⟨679, 0, 695, 70⟩) := by
  kernel_rfl!
end HD
end
section
open PySem PySem.W PyProof.Rows
namespace HD
noncomputable section
set_option maxRecDepth 100000
theorem run (w : World) (os : OsState) : topRun treeTable pw w 11 annE (12 + (1 + (378 + (196 + (324 + (1047 + (31 + (657 + (220 + 2))))))))) ⟨boot_heap w.params, Array.mk [], boot_drawn, boot_toks, os⟩ (topStub pw) = some (s1 w os) := by
  have e := bE_eq
  have h0 := pre w os
  have hb := blk w os
  have h1 := p1 w os
  have h2 := p2 w os
  have h3 := p3 w os
  have h4 := p4 w os
  have h5 := p5 w os
  have h6 := p6 w os
  have h7 := p7 w os
  have hf := finE w os
  dsimp only [SR, TT] at h0 hb h1 h2 h3 h4 h5 h6 h7 hf
  rw [← Fast.te14364793385576792824] at h0 hb h1 h2 h3 h4 h5 h6 h7 hf
  rw [← Fast.te10110043849684766642] at h1 h2 h3 h4 h5 h6 h7
  rw [← Fast.te15667345088766844465, ← Fast.te11892475500146522536] at h0
  rw [← Fast.te14374325043358763698] at hb
  rw [← Fast.te14082659384304107361] at hf
  refine go_top h0 ?_
  refine piece_block hb ?_
  have k := piece_app (segRun_of h1) (piece_app (segRun_of h2) (piece_app (segRun_of h3) (piece_app (segRun_of h4) (piece_app (segRun_of h5) (piece_app (segRun_of h6) (piece_app (segRun_of h7) (piece_nil hf)))))))
  exact (congrArg (fun b => topRun treeTable pw w 11 annE (378 + (196 + (324 + (1047 + (31 + (657 + (220 + 2))))))) (S_blk w os).abs (restOf b envE cE q0 [topFrame q0]) = some (s1 w os)) e).mpr k
theorem pr2 {α β : Type} {a a' : α} {b b' : β} (h : a = a') (k : b = b') : (a, b) = (a', b') := by rw [h, k]
theorem looks (w : World) : (fun os => ((staticsOk (importedModules pw.main.body) (boot_heap w.params) (H_fin w.params) && namesBound pw (H_fin w.params) && gensDone (s1 w os) && laidKept (boot_heap w.params) (H_fin w.params)),
        openSeen view loose (importedModules pw.main.body) Xt true (s1 w os), Hook.obs HK (s1 w os))) = fun _ => (true, openGood view loose, Hook.val HK w) := by
  funext os
  have a1 := k1 w os
  have a2 := k2 w os
  have a3 := k3 w os
  have a4 := k4 w os
  have a5 := k5 w os
  have a6 := k6 w os
  have a7 := k7 w os
  have a8 := k8 w os
  have a9 := k9 w os
  have a10 := k10 w os
  have a11 := k11 w os
  rw [← Fast.te5160383126252970620] at a2
  rw [← Fast.te10880121769531294198] at a4
  rw [← Fast.te479339242167458305] at a5
  rw [← Fast.te16090120013241838585] at a6
  rw [← Fast.te2386780881361962483] at a7
  rw [← Fast.te11698064438423848299] at a8
  rw [← Fast.te7317090234206586261] at a9
  rw [← Fast.te7369524293546568484] at a10
  delta openSeen openGood
  dsimp only
  exact pr2 a1 (pr2 (pr2 a2 (pr2 a3 (pr2 a4 (pr2 a5 (pr2 a6 (pr2 a7 (pr2 a8 (pr2 a9 a10)))))))) a11)
theorem op1 : opening pw = plainProg pw.main.scope.names := by kernel_rfl!
theorem op3 (s : Shared) : fenceModules? pw s = some s := by kernel_rfl!
theorem left : LeftO pw view loose Xt (Hook.obs HK) (Hook.val HK) 6000 true :=
  LeftO.of_pieces (H₀ := boot_heap) (H₁ := H_fin) (gs₀ := Array.mk []) (gs₁ := Array.mk []) (d₀ := boot_drawn) (d₁ := {}) (k₀ := boot_toks) (k₁ := 762) (m₀ := 11) (ann := annE) (M := (12 + (1 + (378 + (196 + (324 + (1047 + (31 + (657 + (220 + 2)))))))))) (boot_open op1 (by decide +kernel) op3) size run (by decide +kernel) looks
end
end HD
end
section
open PySem PySem.W PyProof.Rows
namespace HD
set_option maxRecDepth 100000
set_option maxHeartbeats 8000000
theorem pw_eq : PySem.Challenge.rw_kt0099_01.row.prog = pw := rfl
theorem left' : LeftO PySem.Challenge.rw_kt0099_01.row.prog view loose Xt (Hook.obs HK) (Hook.val HK) 6000 true := by
  rw [pw_eq]; exact left
theorem xt1 : ∀ s, Xt s = true → XL view [] (s.heap.nsMap mainGlobals) s.heap := fun s e => xl_of s (Bool.and_eq_true_iff.mp e).1
theorem xt2 : ∀ s, Xt s = true → RecFacts (PySem.Challenge.rw_kt0099_01.row.records) s.heap := fun s e => recFacts_of (Bool.and_eq_true_iff.mp e).2
theorem promised : PySem.Challenge.rw_kt0099_01.row.toRowW.promised := by w_witness2
theorem bare : PySem.Challenge.rw_kt0099_01.row.prog.bare := ⟨rfl, rfl, rfl, rfl, rfl, by decide +kernel⟩
theorem okk : (chainsOk view && opensWell PySem.Challenge.rw_kt0099_01.row.prog && (frees PySem.Challenge.rw_kt0099_01.row.toRowW && PySem.Challenge.rw_kt0099_01.row.within.isEmpty)) = true := by decide +kernel
theorem nOk : namesOk view (looseW view loose) (namesW view loose) = true := by decide +kernel
theorem iNone : importsNone view = true := by decide +kernel
theorem said : OpenLaw.wellSaid PySem.Challenge.rw_kt0099_01 = true := by decide +kernel
end HD
end
section
open PySem PySem.W PyProof.Rows
namespace Mine
noncomputable abbrev PG : Program := PySem.Challenge.rw_kt0099_01.row.prog
noncomputable abbrev News0 := List (Addr × Obj)
theorem fill (w : World) : (∀ h, (HD.K w.params).In h) ∨ PySem.Challenge.rw_kt0099_01 = PySem.Challenge.rw_kt0099_01 := by
  k_fill
  exact .inr rfl
noncomputable abbrev Con (w : World) (k : Nat) (base : Heap) (news : News0) (tree : Sem Value) (Ret : (Value → News0 → Prop) → Prop) : Prop :=
  ∀ (p : Program) (loose : List Str) (mean : ExcName → Option Value) (mg mb : Str → Option Value)
    (dp un : Nat) (gd : Option (List Code)) (cn : Str) (cs : Scope) (a : Addr) (ccd : Value) (cl : List (Str × Addr)) (outer : List Env) (A₀ : Around) (h₀ : Heap) (L : Addr) (m : Str → Option Value) (s : Shared)
    (Q E : Value → Shared → Prop), Below A₀ base outer h₀ → Fr h₀ L s.heap m → (HD.K w.params).In h₀ → News h₀ L s.heap news → Top p loose mean mg mb h₀ → cs.kind = .function →
    dp + k < recursionLimit → un + 8 * k < cLine →
    Ret (fun r news' => ∀ (h' : Heap) (tk' : Nat), Fr h₀ L h' m → News h₀ L h' news' → Q r { s with heap := h', toks := tk' }) →
    wpAny (model PG w) (ktrTop dp un gd cn cs L a ccd cl outer) tree Q E s
theorem Con.use {w : World} {k : Nat} {base : Heap} {news : News0} {tree : Sem Value} {Ret : (Value → News0 → Prop) → Prop} (C : Con w k base news tree Ret)
    {p : Program} {loose : List Str} {mean : ExcName → Option Value} {mg mb : Str → Option Value}
    {dp un : Nat} {gd : Option (List Code)} {cn : Str} {cs : Scope} {a : Addr} {ccd : Value} {cl : List (Str × Addr)} {outer : List Env} {A₀ : Around} {h₀ : Heap} {L : Addr} {m : Str → Option Value} {s : Shared}
    {Q E : Value → Shared → Prop} (B : Below A₀ base outer h₀) (F : Fr h₀ L s.heap m) (X : (HD.K w.params).In h₀) (N : News h₀ L s.heap news) (T : Top p loose mean mg mb h₀) (hk : cs.kind = .function)
    (hd : dp + k < recursionLimit) (hu : un + 8 * k < cLine)
    (hret : Ret (fun r news' => ∀ (h' : Heap) (tk' : Nat), Fr h₀ L h' m → News h₀ L h' news' → Q r { s with heap := h', toks := tk' })) :
    wpAny (model PG w) (ktrTop dp un gd cn cs L a ccd cl outer) tree Q E s := C p loose mean mg mb dp un gd cn cs a ccd cl outer A₀ h₀ L m s Q E B F X N T hk hd hu hret
theorem Con.useA {w : World} {k : Nat} {base : Heap} {news : News0} {tree : Sem Value} {Ret : (Value → News0 → Prop) → Prop} (C : Con w k base news tree Ret)
    {p : Program} {loose : List Str} {mean : ExcName → Option Value} {mg mb : Str → Option Value} {A : Around}
    {cn : Str} {cs : Scope} {a : Addr} {ccd : Value} {cl : List (Str × Addr)} {outer : List Env} {A₀ : Around} {h₀ : Heap} {L : Addr} {m : Str → Option Value} {s : Shared}
    {Q E : Value → Shared → Prop} (hh : A.handled = none) (hf : A.frames = some (envX cn cs L a ccd cl :: outer)) (B : Below A₀ base outer h₀) (F : Fr h₀ L s.heap m) (X : (HD.K w.params).In h₀) (N : News h₀ L s.heap news) (T : Top p loose mean mg mb h₀) (hk : cs.kind = .function)
    (hd : A.depth + k < recursionLimit) (hu : A.units + 8 * k < cLine)
    (hret : Ret (fun r news' => ∀ (h' : Heap) (tk' : Nat), Fr h₀ L h' m → News h₀ L h' news' → Q r { s with heap := h', toks := tk' })) :
    wpAny (model PG w) A tree Q E s := by
  obtain ⟨hd0, dp, fr, gd, un⟩ := A
  dsimp only at hh hf
  subst hh
  subst hf
  exact C p loose mean mg mb dp un gd cn cs a ccd cl outer A₀ h₀ L m s Q E B F X N T hk hd hu hret
noncomputable abbrev ConS (w : World) (k : Nat) (base : Heap) (news : News0) (tree : Sem Value) (Ret : (Value → News0 → Prop) → Prop) : Prop :=
  ∀ (p : Program) (loose : List Str) (mean : ExcName → Option Value) (mg mb : Str → Option Value)
    (dp un : Nat) (gd : Option (List Code)) (cn : Str) (cs : Scope) (a : Addr) (ccd : Value) (cl : List (Str × Addr)) (A₀ : Around) (h₀ : Heap) (L : Addr) (m : Str → Option Value) (s : Shared)
    (Q E : Value → Shared → Prop), Below A₀ base [] h₀ → Fr h₀ L s.heap m → (HD.K w.params).In h₀ → News h₀ L s.heap news → Top p loose mean mg mb h₀ → (HD.K w.params).In base → Top p loose mean mg mb base → cs.kind = .function →
    dp + k < recursionLimit → un + 8 * k < cLine →
    Ret (fun r news' => ∀ (h' : Heap) (tk' : Nat), Fr h₀ L h' m → News h₀ L h' news' → Q r { s with heap := h', toks := tk' }) →
    wpAny (model PG w) (ktrTop dp un gd cn cs L a ccd cl []) tree Q E s
theorem ieq_yes {x y : Int} {P R : Prop} (h : x = y) (hp : P) : if (x == y) = true then P else R := by rw [if_pos (by simp [h])]; exact hp
theorem ieq_no {x y : Int} {P R : Prop} (h : ¬ x = y) (hq : R) : if (x == y) = true then P else R := by rw [if_neg (by simp [h])]; exact hq
theorem ine_yes {x y : Int} {P R : Prop} (h : ¬ x = y) (hp : P) : if (x != y) = true then P else R := by rw [if_pos (by simp [h])]; exact hp
theorem ine_no {x y : Int} {P R : Prop} (h : x = y) (hq : R) : if (x != y) = true then P else R := by rw [if_neg (by simp [h])]; exact hq
theorem idec_yes {c : Prop} [Decidable c] {P R : Prop} (h : c) (hp : P) : if (decide c) = true then P else R := by rw [if_pos (by simp [h])]; exact hp
theorem idec_no {c : Prop} [Decidable c] {P R : Prop} (h : ¬ c) (hq : R) : if (decide c) = true then P else R := by rw [if_neg (by simp [h])]; exact hq
theorem neOfLt {l : News0} {d : Addr} (h : ∀ p ∈ l, p.1 < d) : ∀ p ∈ l, p.1 ≠ d := fun p hp => Nat.ne_of_lt (h p hp)
theorem and_rng (x : Int) {m : Int} (hm : 0 ≤ m) : 0 ≤ Builtin.bitAnd x m ∧ Builtin.bitAnd x m ≤ m := by
  by_cases hx : 0 ≤ x
  · rw [bitAnd_pp hx hm]
    exact ⟨Int.natCast_nonneg _, Int.le_trans (Int.ofNat_le.mpr Nat.and_le_right) (Int.le_of_eq (Int.toNat_of_nonneg hm))⟩
  · rw [bitAnd_np hx hm]
    exact ⟨Int.sub_nonneg_of_le (Int.le_trans (Int.ofNat_le.mpr Nat.and_le_left) (Int.le_of_eq (Int.toNat_of_nonneg hm))), Int.sub_le_self m (Int.natCast_nonneg _)⟩
theorem opq {M : Model} {A : Around} {α : Type} {t : Sem α} {Q : α → Shared → Prop} {E : Value → Shared → Prop} {s : Shared} (h : ∀ R, R = Q → wpAny M A t R E s) : wpAny M A t Q E s := h Q rfl
theorem fr_let {P : Prop} {h₀ h : Heap} {L : Addr} {m : Str → Option Value} (F : Fr h₀ L h m) (k : let m' := m; Fr h₀ L h m' → P) : P := k F
theorem storeI {M : Model} {A : Around} {E : Value → Shared → Prop} {s : Shared} {h₀ : Heap} {L b : Addr} {m : Str → Option Value} {cn : Str} {cs : Scope} {ccd : Value} {cl : List (Str × Addr)} {x : Str} {a : Int} {t : Tok} {Q : Unit → Shared → Prop} {news : List (Addr × Obj)}
    (F : Fr h₀ L s.heap m) (N : News h₀ L s.heap news)
    (h : ∀ h' t' k, Fr h₀ L h' (fun y => if y = x then some (.int a t') else m y) → News h₀ L h' news → Q () ⟨h', s.gens, s.drawn, k, s.os⟩)
    (hk : cs.kind = .function := by rfl) (hx : (envX cn cs L b ccd cl).kindOf x = some .local := by rfl) : wpAny M A (storeName (envX cn cs L b ccd cl) x (.int a t)) Q E s :=
  storeX_L F N (fun h' F' N' => h h' t (s.toks + 1) F' N') hk hx
end Mine
end
section
open PySem PySem.W PyProof.Rows
namespace Mine
set_option genSizeOf false
set_option genInjectivity false
inductive PV where
  | i (x : Int)
  | v (x : Value)
noncomputable def PV.is : PV → Value → Prop
  | .i x, w => ∃ t, w = .int x t
  | .v x, w => w = x
noncomputable def pV : Value → PV
  | .int i _ => .i i
  | w => .v w
theorem pV_ok (w : Value) : (pV w).is w := by cases w <;> first | exact ⟨_, rfl⟩ | rfl
inductive XV where
  | name (x : Str)
  | int (i : Int)
  | bool (b : Bool)
  | none
  | bin (l : Expr) (op : Operator) (r : Expr)
  | cmp (l : Expr) (ops : List CmpOp) (rs : List Expr)
  | bool2 (op : BoolOp) (xs : List Expr)
  | un (op : UnaryOp) (x : Expr)
  | other
noncomputable def cV : Const → XV
  | .int i => .int i
  | .bool b => .bool b
  | .none => .none
  | _ => .other
noncomputable def xV : Expr → XV
  | .Constant c _ _ => cV c
  | .Name x _ => .name x
  | .BinOp l op r _ => .bin l op r
  | .Compare l ops rs _ => .cmp l ops rs
  | .BoolOp op xs _ => .bool2 op xs
  | .UnaryOp op x _ => .un op x
  | _ => .other
noncomputable def XV.is : XV → Expr → Prop
  | .name x, e => ∃ p, e = .Name x p
  | .int i, e => ∃ k p, e = .Constant (.int i) k p
  | .bool b, e => ∃ k p, e = .Constant (.bool b) k p
  | .none, e => ∃ k p, e = .Constant .none k p
  | .bin l op r, e => ∃ p, e = .BinOp l op r p
  | .cmp l ops rs, e => ∃ p, e = .Compare l ops rs p
  | .bool2 op xs, e => ∃ p, e = .BoolOp op xs p
  | .un op x, e => ∃ p, e = .UnaryOp op x p
  | .other, _ => True
theorem cV_ok (c : Const) (k : Nat) (p : Pos) : (cV c).is (.Constant c k p) := by cases c <;> first | exact ⟨_, _, rfl⟩ | trivial
theorem xV_ok (e : Expr) : (xV e).is e := by cases e <;> first | exact cV_ok _ _ _ | exact ⟨_, rfl⟩ | trivial
noncomputable def bI : Option PV → Option PV → (Int → Int → Option α) → Option α
  | some (.i a), some (.i b), f => f a b
  | _, _, _ => none
theorem bI_ok {α : Type} {x y : Option PV} {f : Int → Int → Option α} {r : α} (h : bI x y f = some r) : ∃ a b, x = some (.i a) ∧ y = some (.i b) ∧ f a b = some r := by
  cases x with
  | none => cases h
  | some x => cases x with
    | v _ => cases h
    | i a => cases y with
      | none => cases h
      | some y => cases y with
        | v _ => cases h
        | i b => exact ⟨a, b, rfl, rfl, h⟩
noncomputable def pBin (op : Operator) (k : Bool) (a b : Int) : Option PV := match op, k with
  | .Add, _ => some (.i (a + b))
  | .Sub, _ => some (.i (a - b))
  | .BitAnd, _ => some (.i (Builtin.bitAnd a b))
  | .BitOr, _ => some (.i (Builtin.bitOr a b))
  | .Mod, true => some (.i (a.fmod b))
  | .RShift, true => some (.i (a.fdiv (2 ^ b.toNat)))
  | _, _ => none
noncomputable def pK (v : XV) : Bool := match v with
  | .int i => decide (0 < i)
  | _ => false
noncomputable def peV (env : Env) (m : Str → Option Value) (f : Expr → Option PV) (v : XV) : Option PV := match v with
  | .int i => some (.i i)
  | .bool b => some (.v (.bool b))
  | .none => some (.v .none)
  | .name x => bif (env.kindOf x == some .local) && !(x == Str.ofString "__debug__") then (m x).map pV else none
  | .bin l op r => bI (f l) (f r) (pBin op (pK (xV r)))
  | _ => none
noncomputable def pe (env : Env) (m : Str → Option Value) : Nat → Expr → Option PV
  | 0, _ => none
  | n + 1, e => peV env m (pe env m n) (xV e)
section
variable {prog : Program} {w : World} {A : Around} {E : Value → Shared → Prop} {h₀ : Heap} {L a : Addr} {m : Str → Option Value} {cn : Str} {cs : Scope} {ccd : Value} {cl : List (Str × Addr)}
  {h : Heap} {g : Array GenState} {d : Drawn} {o : OsState}
theorem bin_ok {op : Operator} {kk : Bool} {x y : Int} {r : PV} (hr : pBin op kk x y = some r) (hy : kk = true → 0 < y) (t u : Tok) {k : Nat} {Q : Value → Shared → Prop} (hQ : ∀ v k', r.is v → Q v ⟨h, g, d, k', o⟩) :
    wpAny (model prog w) A (binaryOp op (.int x t) (.int y u)) Q E ⟨h, g, d, k, o⟩ := by
  cases op with
  | Add => cases hr; exact add_int (hQ _ _ ⟨_, rfl⟩)
  | Sub => cases hr; exact sub_int (hQ _ _ ⟨_, rfl⟩)
  | BitAnd => cases hr; exact and_int (hQ _ _ ⟨_, rfl⟩)
  | BitOr => cases hr; exact or_int (hQ _ _ ⟨_, rfl⟩)
  | Mod => cases kk with
    | false => cases hr
    | true => cases hr; exact mod_int (Int.ne_of_gt (hy rfl)) (hQ _ _ ⟨_, rfl⟩)
  | RShift => cases kk with
    | false => cases hr
    | true => cases hr; exact rshift_int (Int.le_of_lt (hy rfl)) (hQ _ _ ⟨_, rfl⟩)
  | _ => cases hr
theorem pK_ok {env : Env} {n : Nat} {e : Expr} {b : Int} (hk : pK (xV e) = true) (hp : pe env m n e = some (.i b)) : 0 < b := by
  cases n with
  | zero => cases hp
  | succ n =>
    have hp : peV env m (pe env m n) (xV e) = some (.i b) := hp
    revert hk hp
    cases xV e with
    | int i => exact fun hk hp => by cases hp; exact of_decide_eq_true hk
    | _ => exact fun hk => by cases hk
noncomputable def Evals (prog : Program) (w : World) (A : Around) (E : Value → Shared → Prop) (env : Env) (h : Heap) (g : Array GenState) (d : Drawn) (o : OsState) (e : Expr) (r : PV) : Prop :=
  ∀ (k : Nat) (Q : Value → Shared → Prop), (∀ v k', r.is v → Q v ⟨h, g, d, k', o⟩) → wpAny (model prog w) A (eval e env) Q E ⟨h, g, d, k, o⟩
theorem name_ok (hk : cs.kind = .function) (F : Fr h₀ L h m) {x : Str} {p : Pos} {r : PV} (hr : (bif ((envX cn cs L a ccd cl).kindOf x == some .local) && !(x == Str.ofString "__debug__") then (m x).map pV else none) = some r) :
    Evals prog w A E (envX cn cs L a ccd cl) h g d o (.Name x p) r := by
  intro k Q hQ
  cases hc : ((envX cn cs L a ccd cl).kindOf x == some .local) && !(x == Str.ofString "__debug__") with
  | false => rw [hc] at hr; cases hr
  | true =>
    rw [hc] at hr
    have hc := Bool.and_eq_true_iff.mp hc
    obtain ⟨v, hm, rfl⟩ := Option.map_eq_some_iff.mp hr
    exact nameX_L (s := ⟨h, g, d, k, o⟩) F hm (hQ _ _ (pV_ok v)) hk (eq_of_beq hc.1) (by simpa using hc.2)
theorem pe_ok (hk : cs.kind = .function) (F : Fr h₀ L h m) (n : Nat) : ∀ (e : Expr) (r : PV), pe (envX cn cs L a ccd cl) m n e = some r → Evals prog w A E (envX cn cs L a ccd cl) h g d o e r := by
  induction n with
  | zero => intro e r hr; cases hr
  | succ n ih =>
    intro e r hr
    have hr : peV (envX cn cs L a ccd cl) m (pe (envX cn cs L a ccd cl) m n) (xV e) = some r := hr
    have hx := xV_ok e
    revert hr hx
    cases xV e with
    | int i => rintro hr ⟨_, _, rfl⟩; cases hr; exact fun k Q hQ => wpAny_Constant_int (hQ _ _ ⟨_, rfl⟩)
    | bool b => rintro hr ⟨_, _, rfl⟩; cases hr; exact fun k Q hQ => wpAny_Constant_bool (hQ _ _ rfl)
    | none => rintro hr ⟨_, _, rfl⟩; cases hr; exact fun k Q hQ => wpAny_Constant_none (hQ _ _ rfl)
    | name x => rintro hr ⟨_, rfl⟩; exact name_ok hk F hr
    | bin l op r' =>
      rintro hr ⟨_, rfl⟩
      obtain ⟨x, y, e1, e2, e3⟩ := bI_ok hr
      refine fun k Q hQ => wpAny_BinOp (ih l _ e1 k _ fun v1 k1 i1 => ih r' _ e2 k1 _ fun v2 k2 i2 => ?_)
      obtain ⟨t1, rfl⟩ := i1
      obtain ⟨t2, rfl⟩ := i2
      exact bin_ok e3 (fun hp => pK_ok hp e2) t1 t2 hQ
    | _ => intro hr; cases hr
noncomputable def pCmp (op : CmpOp) (a b : Int) : Option (Prop × Prop) := match op with
  | .Eq => some (a = b, a ≠ b)
  | .NotEq => some (a ≠ b, a = b)
  | .Lt => some (a < b, b ≤ a)
  | .LtE => some (a ≤ b, b < a)
  | .Gt => some (b < a, a ≤ b)
  | .GtE => some (b ≤ a, a < b)
  | _ => none
noncomputable def pVal : PV → Option (Prop × Prop)
  | .i a => some (a ≠ 0, a = 0)
  | .v (.bool b) => some (b = true, b = false)
  | .v .none => some (False, True)
  | _ => none
noncomputable def pTwo : Option (Prop × Prop) → Option (Prop × Prop) → (Prop → Prop → Prop) → (Prop → Prop → Prop) → Option (Prop × Prop)
  | some p, some q, f, f' => some (f p.1 q.1, f' p.2 q.2)
  | _, _, _, _ => none
theorem pTwo_ok {x y : Option (Prop × Prop)} {f f' : Prop → Prop → Prop} {P N : Prop} (h : pTwo x y f f' = some (P, N)) : ∃ p q, x = some p ∧ y = some q ∧ P = f p.1 q.1 ∧ N = f' p.2 q.2 := by
  cases x with
  | none => cases h
  | some p => cases y with
    | none => cases h
    | some q => cases h; exact ⟨p, q, rfl, rfl, rfl, rfl⟩
noncomputable def pAll (f : Expr → Option (Prop × Prop)) : List Expr → Option (Prop × Prop)
  | [] => none
  | x :: y => match y with
    | [] => f x
    | _ :: _ => pTwo (f x) (pAll f y) And Or
noncomputable def pAny (f : Expr → Option (Prop × Prop)) : List Expr → Option (Prop × Prop)
  | [] => none
  | x :: y => match y with
    | [] => f x
    | _ :: _ => pTwo (f x) (pAny f y) Or And
noncomputable def ptC (f : Expr → Option PV) (l : Expr) (ops : List CmpOp) (rs : List Expr) : Option (Prop × Prop) := match ops with
  | [] => none
  | op :: ops => match ops with
    | _ :: _ => none
    | [] => match rs with
      | [] => none
      | r :: rs => match rs with
        | _ :: _ => none
        | [] => bif behindInMarks op r then none else bI (f l) (f r) (pCmp op)
noncomputable def ptV (f : Expr → Option PV) (t : Expr → Option (Prop × Prop)) (v : XV) (u : Option PV) : Option (Prop × Prop) := match v with
  | .cmp l ops rs => ptC f l ops rs
  | .bool2 op xs => match op with
    | .And => pAll t xs
    | .Or => pAny t xs
  | .un op x => match op with
    | .Not => (t x).map fun p => (p.2, p.1)
    | _ => none
  | .name _ => u.bind pVal
  | _ => none
noncomputable def pt (env : Env) (m : Str → Option Value) : Nat → Expr → Option (Prop × Prop)
  | 0, _ => none
  | n + 1, e => ptV (pe env m n) (pt env m n) (xV e) (pe env m (n + 1) e)
noncomputable def Says (M : Model) (A : Around) (E : Value → Shared → Prop) (t : Sem Bool) (h : Heap) (g : Array GenState) (d : Drawn) (o : OsState) (P N : Prop) : Prop :=
  ∃ b : Bool, (P → b = true) ∧ (N → b = false) ∧ ∀ (k : Nat) (Q : Bool → Shared → Prop), (∀ k', Q b ⟨h, g, d, k', o⟩) → wpAny M A t Q E ⟨h, g, d, k, o⟩
theorem Says.not {M : Model} {x : Expr} {pos : Pos} {whole : Sem Value} {env : Env} {P N : Prop} (H : Says M A E (PySem.isTrue x env (eval x env)) h g d o P N) : Says M A E (PySem.isTrue (.UnaryOp .Not x pos) env whole) h g d o N P := by
  obtain ⟨b, h1, h2, h3⟩ := H
  exact ⟨!b, fun n => by rw [h2 n]; rfl, fun p => by rw [h1 p]; rfl, fun k Q hQ => isTrue_not (h3 k _ hQ)⟩
theorem Says.and {M : Model} {x y : Expr} {zs : List Expr} {pos : Pos} {whole : Sem Value} {env : Env} {P N P' N' : Prop} (H : Says M A E (PySem.isTrue x env (eval x env)) h g d o P N) (H' : Says M A E (PySem.isTrue (.BoolOp .And (y :: zs) pos) env whole) h g d o P' N') :
    Says M A E (PySem.isTrue (.BoolOp .And (x :: y :: zs) pos) env whole) h g d o (P ∧ P') (N ∨ N') := by
  obtain ⟨b, h1, h2, h3⟩ := H
  obtain ⟨b', h1', h2', h3'⟩ := H'
  refine ⟨b && b', fun q => by rw [h1 q.1, h1' q.2]; rfl, fun q => q.elim (fun q => by rw [h2 q]; rfl) (fun q => by rw [h2' q, Bool.and_false]), fun k Q hQ => isTrue_and (h3 k _ fun k' => ?_)⟩
  cases b with
  | true => exact h3' _ _ hQ
  | false => exact hQ _
theorem Says.or {M : Model} {x y : Expr} {zs : List Expr} {pos : Pos} {whole : Sem Value} {env : Env} {P N P' N' : Prop} (H : Says M A E (PySem.isTrue x env (eval x env)) h g d o P N) (H' : Says M A E (PySem.isTrue (.BoolOp .Or (y :: zs) pos) env whole) h g d o P' N') :
    Says M A E (PySem.isTrue (.BoolOp .Or (x :: y :: zs) pos) env whole) h g d o (P ∨ P') (N ∧ N') := by
  obtain ⟨b, h1, h2, h3⟩ := H
  obtain ⟨b', h1', h2', h3'⟩ := H'
  refine ⟨b || b', fun q => q.elim (fun q => by rw [h1 q]; rfl) (fun q => by rw [h1' q, Bool.or_true]), fun q => by rw [h2 q.1, h2' q.2]; rfl, fun k Q hQ => isTrue_or (h3 k _ fun k' => ?_)⟩
  cases b with
  | true => exact hQ _
  | false => exact h3' _ _ hQ
theorem Says.and1 {M : Model} {x : Expr} {pos : Pos} {whole : Sem Value} {env : Env} {P N : Prop} (H : Says M A E (PySem.isTrue x env (eval x env)) h g d o P N) : Says M A E (PySem.isTrue (.BoolOp .And [x] pos) env whole) h g d o P N := by
  obtain ⟨b, h1, h2, h3⟩ := H
  refine ⟨b, h1, h2, fun k Q hQ => isTrue_and (h3 k _ fun k' => ?_)⟩
  cases b with
  | true => exact isTrue_and_nil (hQ _)
  | false => exact hQ _
theorem Says.or1 {M : Model} {x : Expr} {pos : Pos} {whole : Sem Value} {env : Env} {P N : Prop} (H : Says M A E (PySem.isTrue x env (eval x env)) h g d o P N) : Says M A E (PySem.isTrue (.BoolOp .Or [x] pos) env whole) h g d o P N := by
  obtain ⟨b, h1, h2, h3⟩ := H
  refine ⟨b, h1, h2, fun k Q hQ => isTrue_or (h3 k _ fun k' => ?_)⟩
  cases b with
  | true => exact hQ _
  | false => exact isTrue_or_nil (hQ _)
theorem cmp_ok {op : CmpOp} {x y : Int} {P N : Prop} (hr : pCmp op x y = some (P, N)) : ∃ c : Bool, (P → c = true) ∧ (N → c = false) ∧ ∀ (t u : Tok) (s : Shared) (Q : Value → Shared → Prop), Q (.bool c) s → wpAny (model prog w) A (compareOp op (.int x t) (.int y u)) Q E s := by
  cases op <;> first | cases hr | skip
  · exact ⟨x == y, fun p => beq_iff_eq.mpr p, fun n => beq_false_of_ne n, fun _ _ _ _ => eq_int⟩
  · exact ⟨x != y, fun p => bne_iff_ne.mpr p, fun n => by rw [n]; exact bne_self_eq_false _, fun _ _ _ _ => ne_int⟩
  · exact ⟨decide (x < y), fun p => decide_eq_true p, fun n => decide_eq_false (Int.not_lt.mpr n), fun _ _ _ _ => lt_int⟩
  · exact ⟨decide (x ≤ y), fun p => decide_eq_true p, fun n => decide_eq_false (Int.not_le.mpr n), fun _ _ _ _ => le_int⟩
  · exact ⟨decide (y < x), fun p => decide_eq_true p, fun n => decide_eq_false (Int.not_lt.mpr n), fun _ _ _ _ => gt_int⟩
  · exact ⟨decide (y ≤ x), fun p => decide_eq_true p, fun n => decide_eq_false (Int.not_le.mpr n), fun _ _ _ _ => ge_int⟩
theorem pVal_ok {v : PV} {P N : Prop} (hv : pVal v = some (P, N)) : ∃ b : Bool, (P → b = true) ∧ (N → b = false) ∧ ∀ (x : Value) (s : Shared) (Q : Bool → Shared → Prop), v.is x → Q b s → wpAny (model prog w) A (truthy x) Q E s := by
  cases v with
  | i a => cases hv; exact ⟨a != 0, fun p => bne_iff_ne.mpr p, fun n => by rw [n]; rfl, fun x s Q hx hQ => by obtain ⟨t, rfl⟩ := hx; exact truthy_int hQ⟩
  | v y => cases y <;> first | cases hv | skip
           · exact ⟨false, fun p => p.elim, fun _ => rfl, fun x s Q hx hQ => by obtain rfl := hx; exact truthy_none hQ⟩
           · next b => exact ⟨b, id, id, fun x s Q hx hQ => by obtain rfl := hx; exact wpAny_truthy_bool hQ⟩
theorem ptC_ok {env : Env} {f : Expr → Option PV} {l : Expr} {ops : List CmpOp} {rs : List Expr} {p : Pos} {P N : Prop} (hf : ∀ e r, f e = some r → Evals prog w A E env h g d o e r) (hr : ptC f l ops rs = some (P, N)) :
    Says (model prog w) A E (PySem.isTrue (.Compare l ops rs p) env (eval (.Compare l ops rs p) env)) h g d o P N := by
  cases ops with
  | nil => cases hr
  | cons op ops => cases ops with
    | cons _ _ => cases hr
    | nil => cases rs with
      | nil => cases hr
      | cons r rs => cases rs with
        | cons _ _ => cases hr
        | nil =>
          have hr : (bif behindInMarks op r then none else bI (f l) (f r) (pCmp op)) = some (P, N) := hr
          cases hb : behindInMarks op r with
          | true => rw [hb] at hr; cases hr
          | false =>
            rw [hb] at hr
            obtain ⟨x, y, e1, e2, e3⟩ := bI_ok hr
            obtain ⟨c, h1, h2, h3⟩ := cmp_ok e3
            refine ⟨c, h1, h2, fun k Q hQ => wpAny_isTrue_Compare1 (hf l _ e1 k _ fun v1 k1 i1 => hf r _ e2 k1 _ fun v2 k2 i2 => ?_) hb⟩
            obtain ⟨t1, rfl⟩ := i1
            obtain ⟨t2, rfl⟩ := i2
            exact h3 _ _ _ _ (wpAny_truthy_bool (hQ _))
theorem ptB_ok {env : Env} {t : Expr → Option (Prop × Prop)} {op : BoolOp} {p : Pos} (ht : ∀ e P N, t e = some (P, N) → Says (model prog w) A E (PySem.isTrue e env (eval e env)) h g d o P N) :
    ∀ (xs : List Expr) (P N : Prop), (match op with | .And => pAll t xs | .Or => pAny t xs) = some (P, N) → ∀ whole, Says (model prog w) A E (PySem.isTrue (.BoolOp op xs p) env whole) h g d o P N := by
  intro xs
  cases op with
  | And =>
    induction xs with
    | nil => intro P N hr; cases hr
    | cons x ys ih => cases ys with
      | nil => exact fun P N hr whole => (ht x P N hr).and1
      | cons y zs =>
        intro P N hr
        obtain ⟨q1, q2, e1, e2, rfl, rfl⟩ := pTwo_ok hr
        exact fun whole => (ht x _ _ e1).and (ih _ _ e2 whole)
  | Or =>
    induction xs with
    | nil => intro P N hr; cases hr
    | cons x ys ih => cases ys with
      | nil => exact fun P N hr whole => (ht x P N hr).or1
      | cons y zs =>
        intro P N hr
        obtain ⟨q1, q2, e1, e2, rfl, rfl⟩ := pTwo_ok hr
        exact fun whole => (ht x _ _ e1).or (ih _ _ e2 whole)
theorem pt_ok (hk : cs.kind = .function) (F : Fr h₀ L h m) (n : Nat) : ∀ (e : Expr) (P N : Prop), pt (envX cn cs L a ccd cl) m n e = some (P, N) →
    Says (model prog w) A E (PySem.isTrue e (envX cn cs L a ccd cl) (eval e (envX cn cs L a ccd cl))) h g d o P N := by
  induction n with
  | zero => intro e P N hr; cases hr
  | succ n ih =>
    intro e P N hr
    have hr : ptV (pe (envX cn cs L a ccd cl) m n) (pt (envX cn cs L a ccd cl) m n) (xV e) (pe (envX cn cs L a ccd cl) m (n + 1) e) = some (P, N) := hr
    have hx := xV_ok e
    revert hr hx
    cases xV e with
    | cmp l ops rs => rintro hr ⟨p, rfl⟩; exact ptC_ok (fun e r => pe_ok hk F n e r) hr
    | bool2 op xs => rintro hr ⟨p, rfl⟩; exact ptB_ok ih xs P N hr _
    | un op x =>
      rintro hr ⟨p, rfl⟩
      cases op with
      | Not =>
        obtain ⟨q, e1, e2⟩ := Option.map_eq_some_iff.mp hr
        cases e2
        exact (ih x _ _ e1).not
      | _ => cases hr
    | name x =>
      rintro hr ⟨p, rfl⟩
      obtain ⟨v, e1, e2⟩ := Option.bind_eq_some_iff.mp hr
      obtain ⟨b, h1, h2, h3⟩ := pVal_ok e2
      exact ⟨b, h1, h2, fun k Q hQ => wpAny_isTrue_value (pe_ok hk F _ _ _ e1 k _ fun x' k' hi => h3 x' _ _ hi (hQ _)) rfl⟩
    | _ => intro hr; cases hr
theorem wp_execs_app {M : Model} {Γ : Ctx} {env : Env} (b : List Stmt) (E' : Value → Pos → Shared → Prop) (Q' : Flow → Pos → Shared → Prop) : ∀ (a : List Stmt) (p : Pos) (s : Shared),
    Sem.wp M Γ (execs (a ++ b) env) Q' E' p s = Sem.wp M Γ (execs a env) (fun f x s' => match f with | .next => Sem.wp M Γ (execs b env) Q' E' x s' | f => Q' f x s') E' p s
  | [], p, s => rfl
  | st :: a, p, s => by
    rw [List.cons_append, execs_cons, execs_cons, Sem.wp_bind', Sem.wp_bind']
    congr 1
    funext f x s'
    cases f with
    | next => exact wp_execs_app b E' Q' a x s'
    | _ => rfl
theorem if_app {M : Model} {s : Shared} {env : Env} {test : Expr} {body orelse rest b1 b2 : List Stmt} {pos : Pos} {Q : Flow → Shared → Prop}
    (h : wpAny M A (PySem.isTrue test env (eval test env)) (fun b s₂ => if b = true then wpAny M A (execs b1 env) Q E s₂ else wpAny M A (execs b2 env) Q E s₂) E s)
    (e1 : body ++ rest = b1 := by rfl) (e2 : orelse ++ rest = b2 := by rfl) :
    wpAny M A (execs (.If test body orelse pos :: rest) env) Q E s := fun Γ p hΓ => by
  subst e1
  subst e2
  rw [execs_cons, Sem.wp_bind', exec_If]
  simp only [Sem.wp_bind', Sem.wp_cmd_standAt]
  refine Sem.wp_mono M Γ _ (fun b p₂ s₂ h₂ => ?_) (fun _ _ _ h' => h') _ _ (h Γ _ hΓ)
  cases b
  · have := h₂ Γ p₂ hΓ
    rw [wp_execs_app] at this
    refine Sem.wp_mono M Γ _ (fun f p' s' h' => ?_) (fun _ _ _ h' => h') _ _ this
    cases f <;> exact h'
  · have := h₂ Γ p₂ hΓ
    rw [wp_execs_app] at this
    refine Sem.wp_mono M Γ _ (fun f p' s' h' => ?_) (fun _ _ _ h' => h') _ _ this
    cases f <;> exact h'
theorem if_yes {P N : Prop} {test : Expr} {body orelse rest b1 : List Stmt} {pos : Pos} {Q : Flow → Shared → Prop} {k : Nat} (F : Fr h₀ L h m) (hp : pt (envX cn cs L a ccd cl) m 8 test = some (P, N)) (hP : P)
    (K : ∀ k', wpAny (model prog w) A (execs b1 (envX cn cs L a ccd cl)) Q E ⟨h, g, d, k', o⟩) (hk : cs.kind = .function := by rfl) (e1 : body ++ rest = b1 := by rfl) :
    wpAny (model prog w) A (execs (.If test body orelse pos :: rest) (envX cn cs L a ccd cl)) Q E ⟨h, g, d, k, o⟩ := by
  obtain ⟨b, h1, h2, h3⟩ := pt_ok (prog := prog) (w := w) (A := A) (E := E) (g := g) (d := d) (o := o) hk F _ _ _ _ hp
  subst e1
  cases h1 hP
  exact if_app (h3 _ _ K) rfl rfl
theorem if_no {P N : Prop} {test : Expr} {body orelse rest b2 : List Stmt} {pos : Pos} {Q : Flow → Shared → Prop} {k : Nat} (F : Fr h₀ L h m) (hp : pt (envX cn cs L a ccd cl) m 8 test = some (P, N)) (hN : N)
    (K : ∀ k', wpAny (model prog w) A (execs b2 (envX cn cs L a ccd cl)) Q E ⟨h, g, d, k', o⟩) (hk : cs.kind = .function := by rfl) (e2 : orelse ++ rest = b2 := by rfl) :
    wpAny (model prog w) A (execs (.If test body orelse pos :: rest) (envX cn cs L a ccd cl)) Q E ⟨h, g, d, k, o⟩ := by
  obtain ⟨b, h1, h2, h3⟩ := pt_ok (prog := prog) (w := w) (A := A) (E := E) (g := g) (d := d) (o := o) hk F _ _ _ _ hp
  subst e2
  cases h2 hN
  exact if_app (h3 _ _ K) rfl rfl
theorem as_int {i : Int} {x : Str} {e : Expr} {rest : List Stmt} {p' pos : Pos} {Q : Flow → Shared → Prop} {k : Nat} {news : List (Addr × Obj)} (F : Fr h₀ L h m) (N : News h₀ L h news)
    (hp : pe (envX cn cs L a ccd cl) m 8 e = some (.i i))
    (K : ∀ h' t' k', let m' := fun y => if y = x then some (.int i t') else m y; Fr h₀ L h' m' → News h₀ L h' news → wpAny (model prog w) A (execs rest (envX cn cs L a ccd cl)) Q E ⟨h', g, d, k', o⟩)
    (hx : (envX cn cs L a ccd cl).kindOf x = some .local := by rfl) (hk : cs.kind = .function := by rfl) (hs : swapsWith e (some (.Name x p')) pos.line (envX cn cs L a ccd cl) = pure false := by rfl) :
    wpAny (model prog w) A (execs (.Assign [.Name x p'] e pos :: rest) (envX cn cs L a ccd cl)) Q E ⟨h, g, d, k, o⟩ := by
  refine wpAny_execs_cons (wpAny_Assign_Name (pe_ok hk F _ _ _ hp k _ fun v k1 i1 => ?_) hs)
  obtain ⟨t, rfl⟩ := i1
  exact storeX_L (s := ⟨h, g, d, k1, o⟩) F N (fun h' F' N' => K h' t _ F' N') hk hx
theorem storeV {M : Model} {x : Str} {v : Value} {Q : Unit → Shared → Prop} {news : List (Addr × Obj)} {k : Nat} (F : Fr h₀ L h m) (N : News h₀ L h news)
    (K : ∀ h', let m' := fun y => if y = x then some v else m y; Fr h₀ L h' m' → News h₀ L h' news → Q () ⟨h', g, d, k + 1, o⟩)
    (hk : cs.kind = .function := by rfl) (hx : (envX cn cs L a ccd cl).kindOf x = some .local := by rfl) : wpAny M A (storeName (envX cn cs L a ccd cl) x v) Q E ⟨h, g, d, k, o⟩ :=
  storeX_L (s := ⟨h, g, d, k, o⟩) F N (fun h' F' N' => K h' F' N') hk hx
theorem storeJ {M : Model} {x : Str} {i : Int} {t : Tok} {Q : Unit → Shared → Prop} {news : List (Addr × Obj)} {k : Nat} (F : Fr h₀ L h m) (N : News h₀ L h news)
    (K : ∀ h' t' k', let m' := fun y => if y = x then some (.int i t') else m y; Fr h₀ L h' m' → News h₀ L h' news → Q () ⟨h', g, d, k', o⟩)
    (hk : cs.kind = .function := by rfl) (hx : (envX cn cs L a ccd cl).kindOf x = some .local := by rfl) : wpAny M A (storeName (envX cn cs L a ccd cl) x (.int i t)) Q E ⟨h, g, d, k, o⟩ :=
  storeX_L (s := ⟨h, g, d, k, o⟩) F N (fun h' F' N' => K h' t _ F' N') hk hx
theorem letM {P : Prop} {x : Str} {v : Option Value} (F : Fr h₀ L h fun y => if y = x then v else m y) (k : let m' := fun y => if y = x then v else m y; Fr h₀ L h m' → P) : P := k F
theorem opqG {P : Prop} (k : ∀ G : Prop, (P → G) → G) : P := k P id
theorem opqQ {M : Model} {α : Type} {t : Sem α} {Q : α → Shared → Prop} {s : Shared} (k : ∀ R : α → Shared → Prop, (∀ a s, Q a s → R a s) → wpAny M A t R E s) : wpAny M A t Q E s := k Q fun _ _ q => q
end
end Mine
end
section
open PySem PySem.W PyProof.Rows
namespace Mine
theorem kstB_ne {m : Str → Option Value} {z : Str} : ∀ {ps : List (Str × Value)}, (∀ p ∈ ps, z ≠ p.1) → kstB m ps z = m z
  | [], _ => rfl
  | _ :: _, h => (if_neg (h _ (.head _))).trans (kstB_ne fun q hq => h q (.tail _ hq))
theorem upd_ne {m : Str → Option Value} {x z : Str} {v r : Option Value} (h : z ≠ x) (k : m z = r) : (if z = x then v else m z) = r := (if_neg h).trans k
theorem lkN {m : Str → Option Value} : ∀ p ∈ ([] : List (Str × Value)), m p.1 = some p.2 := fun _ h => nomatch h
theorem lkC {m : Str → Option Value} {x : Str} {v : Value} {l : List (Str × Value)} (a : m x = some v) (b : ∀ p ∈ l, m p.1 = some p.2) : ∀ p ∈ (x, v) :: l, m p.1 = some p.2 := List.forall_mem_cons.mpr ⟨a, b⟩
theorem ledA {α : Type} (q : α) (l r : List α) : ∀ p ∈ q :: l, p ∈ q :: (l ++ r) := fun _ hp => List.mem_append_left r hp
theorem ledB {α : Type} (q : α) (l r : List α) : ∀ p ∈ r, p ∈ q :: (l ++ r) := fun _ hp => .tail _ (List.mem_append_right _ hp)
theorem nmN {z : Str} : ∀ p ∈ ([] : List (Str × Value)), z ≠ p.1 := fun _ h => nomatch h
theorem nmC {z x : Str} {v : Value} {l : List (Str × Value)} (a : z ≠ x) (b : ∀ p ∈ l, z ≠ p.1) : ∀ p ∈ (x, v) :: l, z ≠ p.1 := List.forall_mem_cons.mpr ⟨a, b⟩
noncomputable def SameJ (st : List Str) (ps : List (Str × Value)) (m m₀ : Str → Option Value) : Prop := ∀ z, (∀ p ∈ ps, z ≠ p.1) → st.contains z = false → m z = m₀ z
theorem sameJ {st : List Str} {ps : List (Str × Value)} {m m₀ : Str → Option Value} (h : SameJ st ps m m₀) : ∀ z, (∀ p ∈ ps, z ≠ p.1) → st.contains z = false → m z = m₀ z := h
theorem sameS {st : List Str} {m m₀ : Str → Option Value} (h : SameJ st [] m m₀) : ∀ z, st.contains z = false → m z = m₀ z := fun z hz => h z (fun _ x => nomatch x) hz
theorem sameK {x : Str} {st : List Str} {ps : List (Str × Value)} {m m₀ : Str → Option Value} (h : SameJ (x :: st) ps m m₀) : ∀ z, z ≠ x → (∀ p ∈ ps, z ≠ p.1) → st.contains z = false → m z = m₀ z :=
  fun z hz h1 h2 => h z h1 (by rw [List.contains_cons, h2, Bool.or_false]; exact beq_false_of_ne hz)
theorem sameE {st : List Str} {ps : List (Str × Value)} {m : Str → Option Value} : SameJ st ps m m := fun _ _ _ => rfl
theorem inJ {st : List Str} {ps : List (Str × Value)} {x z : Str} (hx : (st.contains x || ps.any fun p => p.1 == x) = true) (h1 : ∀ p ∈ ps, z ≠ p.1) (h2 : st.contains z = false) : z ≠ x := fun e => by
  subst e
  rw [h2, Bool.false_or, List.any_eq_true] at hx
  obtain ⟨p, hp, e⟩ := hx
  exact h1 p hp (eq_of_beq e).symm
theorem updJ {st : List Str} {ps : List (Str × Value)} {m m₀ : Str → Option Value} {x : Str} {v : Str → Option Value} (hx : (st.contains x || ps.any fun p => p.1 == x) = true) (h : SameJ st ps m m₀) : SameJ st ps (fun y => if y = x then v y else m y) m₀ :=
  fun z h1 h2 => (if_neg (inJ hx h1 h2)).trans (h z h1 h2)
theorem kstJ {st st' : List Str} {ps ps' : List (Str × Value)} {u m m₀ : Str → Option Value} (hs : (st'.all fun x => st.contains x || ps.any fun p => p.1 == x) = true) (hp : (ps'.all fun q => st.contains q.1 || ps.any fun p => p.1 == q.1) = true)
    (h : SameJ st ps m m₀) : SameJ st ps (fun y => kstB (fun z => if st'.contains z = true then u z else m z) ps' y) m₀ := fun z h1 h2 => by
  show kstB _ ps' z = _
  rw [kstB_ne (fun q hq => inJ (List.all_eq_true.mp hp q hq) h1 h2), if_neg]
  · exact h z h1 h2
  · intro hc
    exact inJ (List.all_eq_true.mp hs z (List.contains_iff_mem.mp hc)) h1 h2 rfl
theorem fall_cons {α : Type} {P : α → Prop} {a : α} {l : List α} (h : P a) (t : ∀ p ∈ l, P p) : ∀ p ∈ a :: l, P p := List.forall_mem_cons.mpr ⟨h, t⟩
theorem cutJ {prog : Program} {w : World} {A : Around} {E : Value → Shared → Prop} {h₀ : Heap} {L : Addr} {m : Str → Option Value} {env : Env} {h : Heap} {g : Array GenState} {d : Drawn} {o : OsState} {k : Nat} {st : Stmt} {rest : List Stmt} {Q : Flow → Shared → Prop}
    {σ : Type} (Led : σ → List (Addr × Obj)) (P : σ → Prop) (_F : Fr h₀ L h m)
    (h1 : ∀ R : Flow → Shared → Prop, (∀ c h' k', Fr h₀ L h' m → News h₀ L h' (Led c) → P c → R .next ⟨h', g, d, k', o⟩) → (∀ f s', f ≠ .next → Q f s' → R f s') → wpAny (model prog w) A (execs [st] env) R E ⟨h, g, d, k, o⟩)
    (h2 : ∀ c h' k', Fr h₀ L h' m → News h₀ L h' (Led c) → P c → wpAny (model prog w) A (execs rest env) Q E ⟨h', g, d, k', o⟩) : wpAny (model prog w) A (execs (st :: rest) env) Q E ⟨h, g, d, k, o⟩ := by
  refine wpAny_execs_cons ?_
  have H := h1 (fun f s' => match f with | .next => wpAny (model prog w) A (execs rest env) Q E s' | f => Q f s') (fun c h' k' F N p => h2 c h' k' F N p) (fun f s' hf q => by cases f <;> first | exact (hf rfl).elim | exact q)
  intro Γ p hΓ
  have H' := H Γ p hΓ
  rw [execs_cons, Sem.wp_bind'] at H'
  refine Sem.wp_mono _ Γ _ (fun f p' s' h' => ?_) (fun _ _ _ h' => h') _ _ H'
  cases f <;> exact h'
theorem news_sub {h₀ : Heap} {L : Addr} {h : Heap} {l l' : List (Addr × Obj)} (N : News h₀ L h l) (s : ∀ p ∈ l', p ∈ l) : News h₀ L h l' := fun p hp => N p (s p hp)
end Mine
end
section
open PySem PySem.W PyProof.Rows
namespace Mine
theorem Con.mk {w : World} {k : Nat} {base : Heap} {news : News0} {tree : Sem Value} {Ret : (Value → News0 → Prop) → Prop}
    (H : ∀ (p : Program) (loose : List Str) (mean : ExcName → Option Value) (mg mb : Str → Option Value)
    (dp un : Nat) (gd : Option (List Code)) (cn : Str) (cns : List (Str × NameKind)) (cg cc : Bool) (cm : List (Str × Const)) (a : Addr) (ccd : Value) (cl : List (Str × Addr)) (outer : List Env) (A₀ : Around) (h₀ : Heap) (L : Addr) (m : Str → Option Value) (s : Shared)
    (Q E : Value → Shared → Prop), Below A₀ base outer h₀ → Fr h₀ L s.heap m → (HD.K w.params).In h₀ → News h₀ L s.heap news → Top p loose mean mg mb h₀ →
    dp + k < recursionLimit → un + 8 * k < cLine →
    Ret (fun r news' => ∀ (h' : Heap) (tk' : Nat), Fr h₀ L h' m → News h₀ L h' news' → Q r { s with heap := h', toks := tk' }) →
    wpAny (model PG w) (ktrTop dp un gd cn ⟨.function, cns, cg, cc, cm⟩ L a ccd cl outer) tree Q E s) : Con w k base news tree Ret := by
  intro p loose mean mg mb dp un gd cn cs a ccd cl outer A₀ h₀ L m s Q E B F X N T hk hd hu hret
  obtain ⟨ck, cns, cg, cc, cm⟩ := cs
  cases hk
  exact H p loose mean mg mb dp un gd cn cns cg cc cm a ccd cl outer A₀ h₀ L m s Q E B F X N T hd hu hret
theorem ConS.mk {w : World} {k : Nat} {base : Heap} {news : News0} {tree : Sem Value} {Ret : (Value → News0 → Prop) → Prop}
    (H : ∀ (p : Program) (loose : List Str) (mean : ExcName → Option Value) (mg mb : Str → Option Value)
    (dp un : Nat) (gd : Option (List Code)) (cn : Str) (cns : List (Str × NameKind)) (cg cc : Bool) (cm : List (Str × Const)) (a : Addr) (ccd : Value) (cl : List (Str × Addr)) (A₀ : Around) (h₀ : Heap) (L : Addr) (m : Str → Option Value) (s : Shared)
    (Q E : Value → Shared → Prop), Below A₀ base [] h₀ → Fr h₀ L s.heap m → (HD.K w.params).In h₀ → News h₀ L s.heap news → Top p loose mean mg mb h₀ → (HD.K w.params).In base → Top p loose mean mg mb base →
    dp + k < recursionLimit → un + 8 * k < cLine →
    Ret (fun r news' => ∀ (h' : Heap) (tk' : Nat), Fr h₀ L h' m → News h₀ L h' news' → Q r { s with heap := h', toks := tk' }) →
    wpAny (model PG w) (ktrTop dp un gd cn ⟨.function, cns, cg, cc, cm⟩ L a ccd cl []) tree Q E s) : ConS w k base news tree Ret := by
  intro p loose mean mg mb dp un gd cn cs a ccd cl A₀ h₀ L m s Q E B F X N T XB TB hk hd hu hret
  obtain ⟨ck, cns, cg, cc, cm⟩ := cs
  cases hk
  exact H p loose mean mg mb dp un gd cn cns cg cc cm a ccd cl A₀ h₀ L m s Q E B F X N T XB TB hd hu hret
end Mine
end
section
namespace Mine
theorem rm1 {x k L a : Nat} (h : x + k < L) (e : Nat.ble a k = true) : x + a < L := Nat.lt_of_le_of_lt (Nat.add_le_add_left (Nat.le_of_ble_eq_true e) x) h
theorem rm0 {x k L : Nat} (h : x + k < L) : x < L := Nat.lt_of_le_of_lt (Nat.le_add_right x k) h
theorem rm2 {x k L a b : Nat} (h : x + k < L) (e : Nat.ble (a + b) k = true) : x + a + b < L := Nat.add_assoc x a b ▸ rm1 h e
theorem rm3 {x k L a b c : Nat} (h : x + k < L) (e : Nat.ble (a + b + c) k = true) : x + a + b + c < L := Nat.add_assoc x a b ▸ rm2 h e
theorem rm4 {x k L a b c d : Nat} (h : x + k < L) (e : Nat.ble (a + b + c + d) k = true) : x + a + b + c + d < L := Nat.add_assoc x a b ▸ rm3 h e
theorem i1 {n : Nat} {k : Int} (h : k < 0) : k < (n : Int) := Int.lt_of_lt_of_le h (Int.natCast_nonneg n)
theorem i2 {a n : Nat} : - (a : Int) ≤ (n : Int) := Int.le_trans (Int.neg_nonpos_of_nonneg (Int.natCast_nonneg a)) (Int.natCast_nonneg n)
theorem i3 {a b c : Nat} : - (a : Int) ≤ (b : Int) + (c : Int) := @i2 a (b + c)
theorem i4 {b c : Nat} {k : Int} (h : k < 0) : k < (b : Int) + (c : Int) := @i1 (b + c) k h
theorem i5 {n m : Nat} {k : Int} (h : n ≤ m) (e : decide ((m : Int) < k) = true) : (n : Int) < k := Int.lt_of_le_of_lt (Int.ofNat_le.mpr h) (of_decide_eq_true e)
theorem i6 {n m : Nat} {k : Int} (h : n < m) (e : decide ((m : Int) < k) = true) : (n : Int) < k := i5 (Nat.le_of_lt h) e
theorem i7 {a b c : Nat} (h : a + b < c) : (a : Int) + (b : Int) < (c : Int) := Int.ofNat_lt.mpr h
theorem j1 {n m k : Nat} (h : n ≤ m) (e : Nat.ble m k = true) : n ≤ k := Nat.le_trans h (Nat.le_of_ble_eq_true e)
theorem j2 {n m k : Nat} (h : n < m) (e : Nat.ble m k = true) : n ≤ k := j1 (Nat.le_of_lt h) e
theorem j3 {n m l k : Nat} (e : n = m) (h : m ≤ l) (f : Nat.ble l k = true) : n ≤ k := e ▸ j1 h f
theorem ite_p {α : Type} {P : α → Prop} {p : Prop} [Decidable p] {a b : α} (h : p → P a) (k : ¬ p → P b) : P (if p then a else b) := by
  by_cases c : p
  · rw [if_pos c]; exact h c
  · rw [if_neg c]; exact k c
end Mine
end
section
open PySem PySem.W PyProof.Rows
namespace Mine
theorem freshC2 : True := by
  k_with_none
  w_top off
  (try (have _h : ∀ (M : Model) (A : Around) (Q : Flow → _) (E : Value → _) (s : Shared) (e : Env), wpAny M A (execs [] e) Q E s := by (intros; walk1; fail "no")))
  k_with "omega" => (first | with_reducible assumption | exact rm1 (by with_reducible assumption) rfl | exact rm2 (by with_reducible assumption) rfl | exact rm3 (by with_reducible assumption) rfl | exact rm4 (by with_reducible assumption) rfl | exact rm0 (by with_reducible assumption) | with_reducible exact ⟨by with_reducible assumption, by with_reducible assumption⟩ | with_reducible exact Or.inl (by with_reducible assumption) | with_reducible exact Or.inr (by with_reducible assumption) | with_reducible exact i1 (by decide) | with_reducible exact i2 | with_reducible exact i3 | with_reducible exact i4 (by decide) | with_reducible exact j1 (by with_reducible assumption) (by decide) | with_reducible exact j2 (by with_reducible assumption) (by decide) | with_reducible exact i5 (by with_reducible assumption) (by decide) | with_reducible exact i6 (by with_reducible assumption) (by decide) | with_reducible exact i7 (by with_reducible assumption))
  trivial
theorem wordsC2_1 : True := by
  k_with "call type:type" => ((with_reducible show wpAny _ _ (call _ [Value.bytes _ _]) _ _ _); refine PySem.call_type_of (Tx := "bytes") rfl (by decide +kernel) ?_)
  k_with "same" => (repeat (first | with_reducible exact sameE | refine kstJ (by rfl) (by rfl) ?_ | refine updJ (by rfl) ?_))
  k_with "storeName" => (k_here; k_dflt (first | (refine' storeJ ?F ?N ?_ ?a ?b; (case F => k_asm); (case N => k_asm); (case a => rfl); (case b => rfl); k_whole; intro _ _ _ _ _ _) | (refine' storeV ?F ?N ?_ ?a ?b; (case F => k_asm); (case N => k_asm); (case a => rfl); (case b => rfl); k_whole; intro _ _ _ _)); (try k_sweep))
  k_with "execs cons" => (k_here; (with_reducible show wpAny _ _ (execs (Stmt.If _ _ _ _ :: _) _) _ _ _); k_dflt (first | (refine' if_yes ?w9F ?w9p ?w9P ?_ ?w9a ?w9b; (case w9F => k_asm); (case w9p => exact rfl); (case w9P => first | omega | (first | exact rfl | assumption | exact ⟨by first | omega | assumption, by first | exact rfl | assumption | omega⟩)); (case w9a => exact rfl); (case w9b => first | dsimp only [List.cons_append, List.nil_append] | exact rfl); k_whole; intro _) | (refine' if_no ?w9F ?w9p ?w9P ?_ ?w9a ?w9b; (case w9F => k_asm); (case w9p => exact rfl); (case w9P => first | omega | (first | exact rfl | assumption | exact Or.inl (by first | omega | assumption | exact rfl) | exact Or.inr (by first | omega | assumption | exact rfl))); (case w9a => exact rfl); (case w9b => first | dsimp only [List.cons_append, List.nil_append] | exact rfl); k_whole; intro _)))
  k_with "execs cons" => (k_here; (with_reducible show wpAny _ _ (execs (Stmt.Assign [Expr.Name _ _] _ _ :: _) _) _ _ _); k_dflt (refine' as_int ?w9F ?w9N ?w9p ?_ ?w9a ?w9b ?w9c; (case w9F => k_asm); (case w9N => k_asm); (case w9p => exact rfl); (case w9a => exact rfl); (case w9b => exact rfl); (case w9c => exact rfl); k_whole; intro _ _ _ _ _ _; (try k_sweep)))
  trivial
noncomputable def rowStep (r : List Int) (x : Int) : List Int := if (r.any fun y => y == x.fmod 48) = true then r else r ++ [x.fmod 48]
noncomputable def rowAcc (xs : List Int) : List Int := xs.foldl rowStep [50, 51, 52, 53]
theorem rowAcc_snoc (pre : List Int) (n : Int) : rowAcc (pre ++ [n]) = rowStep (rowAcc pre) n := by
  unfold rowAcc; rw [List.foldl_append, List.foldl_cons, List.foldl_nil]
theorem rowS0 : ([50, 51, 52, 53] : List Int) = rowAcc [] ∧ ([50, 51, 52, 53] : List Int).length ≤ 4 + ([] : List Int).length := ⟨rfl, by decide⟩
theorem rowS1 {pre row : List Int} {n : Int} (h : row = rowAcc pre) (h2 : row.length ≤ 4 + pre.length) (h1 : (row.any fun y => y == n.fmod 48) = true) : row = rowAcc (pre ++ [n]) ∧ row.length ≤ 4 + (pre ++ [n]).length := by
  refine ⟨?_, by simp only [List.length_append, List.length_singleton]; exact dn20 0x3edafbcd050036bc1400 (by k_ne) h2⟩
  rw [rowAcc_snoc, ← h, rowStep, if_pos h1]
theorem rowS2 {pre row : List Int} {n : Int} (h : row = rowAcc pre) (h2 : row.length ≤ 4 + pre.length) (h1 : (row.any fun y => y == n.fmod 48) = false) : row ++ [n.fmod 48] = rowAcc (pre ++ [n]) ∧ (row ++ [n.fmod 48]).length ≤ 4 + (pre ++ [n]).length := by
  refine ⟨?_, by simp only [List.length_append, List.length_singleton]; exact dn20 0x3edafbcd050bcd036bc1400 (by k_ne) h2⟩
  rw [rowAcc_snoc, ← h, rowStep, if_neg (by rw [h1]; decide)]
noncomputable def rowF (ns : List Int) : List Int := (rowAcc (ns.take 12)).take ((rowAcc (ns.take 12)).length / 4 * 4)
section
variable {w : World} {base : Heap} {news : News0}
set_option maxRecDepth 100000
set_option maxHeartbeats 8000000
theorem rowEnd {ws : List Value} {row ns : List Int} (h : IntsAre ws (List.take (((row.length : Nat) : Int).fdiv 4 * 4).toNat row)) (e : row = rowAcc (ns.take 12)) : IntsAre ws (rowF ns) := by
  have e2 : (((row.length : Nat) : Int).fdiv 4 * 4).toNat = row.length / 4 * 4 := by
    rw [Int.fdiv_eq_ediv_of_nonneg _ (by decide)]
    (first | lia | omega)
  rw [e2, e] at h
  exact h
theorem c_law_row (l : Addr) (vs : List Value) (ns : List Int) (hl : base.IsList l vs.toArray) (hI : IntsAre vs ns) (hlen : ns.length ≤ 63) : Con w 1 base news (call (.ref 334) [.ref l])
    (fun G => ∀ (r : Addr) (rs : List Value) (n : Nat), AllLt r news → IntsAre rs (rowF ns) → G (.ref r) ((r, listOf rs.toArray n) :: news)) := by
  refine Con.mk ?_
  intro p loose mean mg mb dp un gd cn cns cg cc cm a ccd cl outer A₀ h₀ L m s Q E B F X N T hd hu hret
  refine wpAny_call ?_
  k_dflt k_enter
  (k_with "pyIter ref" => k_state (fun pre row => row = rowAcc pre ∧ row.length ≤ 4 + pre.length) "row")
  (k_with "state" => (first | exact rowS0 | exact rowS1 (by assumption) (by assumption) (by assumption) | exact rowS2 (by assumption) (by assumption) (by assumption)))
  k_steps
  · exact absurd ‹_ < (0 : Int)› (Int.not_lt.mpr (Int.mul_nonneg (Int.fdiv_nonneg (Int.natCast_nonneg _) (by decide)) (by decide)))
  · rename_i kF kN _ _
    exact hret _ _ _ (‹_ ∧ _ ∧ AllLt _ news›).2.2 (rowEnd (by assumption) (by assumption)) _ _ kF (cb_drop kN fun p hp => (List.mem_cons.mp hp).elim (fun e => List.mem_cons.mpr (.inl e)) fun e => List.mem_cons_of_mem _ (List.mem_cons_of_mem _ (List.mem_cons_of_mem _ e)))
end
end Mine
end
section
open PySem PySem.W PyProof.Rows
namespace Mine
theorem freshC3 : True := by
  k_with_none
  w_top off
  (try (have _h : ∀ (M : Model) (A : Around) (Q : Flow → _) (E : Value → _) (s : Shared) (e : Env), wpAny M A (execs [] e) Q E s := by (intros; walk1; fail "no")))
  k_with "omega" => (first | with_reducible assumption | exact rm1 (by with_reducible assumption) rfl | exact rm2 (by with_reducible assumption) rfl | exact rm3 (by with_reducible assumption) rfl | exact rm4 (by with_reducible assumption) rfl | exact rm0 (by with_reducible assumption) | with_reducible exact ⟨by with_reducible assumption, by with_reducible assumption⟩ | with_reducible exact Or.inl (by with_reducible assumption) | with_reducible exact Or.inr (by with_reducible assumption) | with_reducible exact i1 (by decide) | with_reducible exact i2 | with_reducible exact i3 | with_reducible exact i4 (by decide) | with_reducible exact j1 (by with_reducible assumption) (by decide) | with_reducible exact j2 (by with_reducible assumption) (by decide) | with_reducible exact i5 (by with_reducible assumption) (by decide) | with_reducible exact i6 (by with_reducible assumption) (by decide) | with_reducible exact i7 (by with_reducible assumption))
  trivial
theorem wordsC3_1 : True := by
  k_with "call type:type" => ((with_reducible show wpAny _ _ (call _ [Value.bytes _ _]) _ _ _); refine PySem.call_type_of (Tx := "bytes") rfl (by decide +kernel) ?_)
  trivial
section
variable {w : World} {base : Heap} {news : News0}
set_option maxRecDepth 100000
set_option maxHeartbeats 8000000
theorem c_truth (b : Bool) : Con w 1 base news (call (.ref 63) [.bool b]) (fun G => G (.bool b) news) := by
  refine Con.mk ?_
  intro p loose mean mg mb dp un gd cn cns cg cc cm a ccd cl outer A₀ h₀ L m s Q E B F X N T hd hu hret
  cases b
  all_goals
    refine wpAny_call ?_
    k_dflt k_enter
    k_steps
    exact hret _ _ (by assumption) (by assumption)
theorem c_buffer (b : Array UInt8) (t : Tok) : Con w 1 base news (call (.ref 56) [.bytes b t]) (fun G => G (.bytes b t) news) := by
  refine Con.mk ?_
  intro p loose mean mg mb dp un gd cn cns cg cc cm a ccd cl outer A₀ h₀ L m s Q E B F X N T hd hu hret
  refine wpAny_call ?_
  k_dflt k_enter
  k_steps
  exact hret _ _ (by assumption) (by assumption)
theorem c_ascii_buffer (b : Array UInt8) (t : Tok) : Con w 1 base news (call (.ref 49) [.bytes b t]) (fun G => G (.bytes b t) news) := by
  refine Con.mk ?_
  intro p loose mean mg mb dp un gd cn cns cg cc cm a ccd cl outer A₀ h₀ L m s Q E B F X N T hd hu hret
  refine wpAny_call ?_
  k_dflt k_enter
  k_steps
  exact hret _ _ (by assumption) (by assumption)
theorem c_decode_data (b : Array UInt8) (t : Tok) : Con w 1 base news (call (.ref 29) [.bytes b t]) (fun G => G (.bytes b t) news) := by
  refine Con.mk ?_
  intro p loose mean mg mb dp un gd cn cns cg cc cm a ccd cl outer A₀ h₀ L m s Q E B F X N T hd hu hret
  refine wpAny_call ?_
  k_dflt k_enter
  k_steps
  exact hret _ _ (by assumption) (by assumption)
noncomputable abbrev b64v (c : Int) : Int := if 65 ≤ c ∧ c ≤ 90 then c - 65 else if 97 ≤ c ∧ c ≤ 122 then c - 71 else if 48 ≤ c ∧ c ≤ 57 then c + 4 else if c = 43 then 62 else if c = 47 then 63 else 64
theorem c_b64_value (c : Int) (t : Tok) (hc : 0 ≤ c) (hc2 : c < 256) : Con w 1 base news (call (.ref 70) [.int c t]) (fun G => ∀ tr, G (.int (b64v c) tr) news) := by
  refine Con.mk ?_
  intro p loose mean mg mb dp un gd cn cns cg cc cm a ccd cl outer A₀ h₀ L m s Q E B F X N T hd hu hret
  refine wpAny_call ?_
  k_dflt k_enter
  replace hret : ∀ (t : Tok) (h' : Heap) (tk' : Nat), Fr h₀ L h' m → News h₀ L h' news → Q (.int (b64v c) t) { s with heap := h', toks := tk' } := hret
  k_steps
  all_goals cb_end hret
end
end Mine
end
section
open PySem PySem.W PyProof.Rows PySem.Spec PySem.Calls
namespace Mine
section
variable {prog : Program} {w : World} {A : Around} {E : Value → Shared → Prop} {s : Shared} {h₀ : Heap} {L : Addr} {m : Str → Option Value} {env : Env}
open LCg
noncomputable def SrcW (prog : Program) (w : World) (A : Around) (h₀ : Heap) (L : Addr) (m : Str → Option Value) (env : Env) (elt : Expr) (x : Str) (scope : Scope) (cl : List (Str × Addr)) (Fin : Shared → List Value → List (Addr × Obj) → Prop) (xv : Value) (s₁ : Shared) : Prop :=
  ∃ (o : Obj) (n : Nat) (P : Nat → Value → Prop) (St : Nat → Heap → Prop) (news : List (Addr × Obj)), Fr h₀ L s₁.heap m ∧ News h₀ L s₁.heap news ∧ n ≤ sizeLine ∧
    (∀ (Q' E' : Value → Shared → Prop), Q' (.ref s₁.heap.objs.size) { s₁ with heap := s₁.heap.push o } → wpAny (model prog w) A (pyIter xv) Q' E' s₁) ∧
    Walks prog w A s₁.heap.objs.size [s₁.heap.objs.size] [s₁.heap.objs.size] n P St ∧ (∀ i h, St i h → ∃ o, h.get? s₁.heap.objs.size = some o) ∧ St 0 (s₁.heap.push o) ∧
    ∀ s₂ : Shared, (∃ h, s₂ = { s₁ with heap := h }) → CompRest prog w A h₀ L m env elt x scope cl s₂ (fun _ => True) P (Fin s₂) n 0 [] news
theorem ListComp_W {elt iter : Expr} {x : Str} {px : Pos} {scope : Scope} {cl : List (Str × Addr)} {pos : Pos} {Q : Value → Shared → Prop} (F₀ : Fr h₀ L s.heap m)
    (hclos : closureFor scope env = pure cl) (hcell : ∀ y ∈ scope.names, y.2 ≠ .cell) (hkind : scope.kind = .function)
    (hnames : ∀ y ∈ scope.names, y.2 = .local → scope.names.lookup y.1 = some .local) (hx : scope.names.lookup x = some .local)
    (h : wpAny (model prog w) A (eval iter env) (SrcW prog w A h₀ L m env elt x scope cl (fun s₂ => FinE h₀ L m s₂ Q)) E s)
    (hs : ∀ x, foldedSetIterable iter env x = pure x := by intro _; rfl) :
    wpAny (model prog w) A (eval (.ListComp elt [⟨.Name x px, iter, [], 0⟩] scope pos) env) Q E s := by
  rw [eval_ListComp]
  refine wpAny_comprehension_free (use := none) rfl hs hclos hkind hnames (wpAny_mono h (fun xv s₁ h₁ => ?_) fun _ _ e => e)
  obtain ⟨o, n, P, St, news, F, N, hsz, hit, W, hIo, hst, R⟩ := h₁
  refine hit _ _ ?_
  refine block_U W hsz hIo (fun i h h' o' nw st e e' _ _ _ => W.frame i h h' st fun b hb o2 e2 => ?_) hcell hkind hx hst (fun b hb => ?_)
    (F.keeps fun _ _ e => Heap.get?_push_of_some _ e) (N.grown fun _ _ e => Heap.get?_push_of_some _ e) (Nat.ne_of_lt F.ns.lt) (next_is_new F) (fun p hp => Nat.ne_of_lt (Heap.lt_size (N p hp).1)) trivial (R _ ⟨_, rfl⟩) ?_
  · rw [List.mem_singleton.mp hb] at e2 ⊢
    rw [e'] ; rw [e] at e2; exact e2
  · rw [List.mem_singleton.mp hb]
    show s₁.heap.objs.size < (s₁.heap.push _).objs.size
    rw [Heap.size_push]; exact Nat.lt_succ_self _
  · intro D C h tk m' ys news' F' N' o1 hn hC₀ hD₀ hCL hDL hCD offC fin
    refine ⟨m', hn, fun h'' hs'' => fin D h'' tk (F'.change hs'' hCL hC₀) (fun p hp => ?_) o1⟩
    refine ⟨hs''.extBut _ _ ?_ (N' p hp).1, (N' p hp).2⟩
    rcases List.mem_cons.mp hp with rfl | hp
    · exact Ne.symm hCD
    · exact offC p hp
theorem SrcW.range {elt : Expr} {x : Str} {scope : Scope} {cl : List (Str × Addr)} {Fin : Shared → List Value → List (Addr × Obj) → Prop} {r : Addr} {a b c : Int} {t u v : Tok} {n : Nat} {news : List (Addr × Obj)} {s₁ : Shared}
    (hh : A.handled = none) (F : Fr h₀ L s₁.heap m) (N : News h₀ L s₁.heap news) (hr : IsRange s₁.heap r a b c t u v) (hsm : Builtin.Range.small a b c = true) (hn : Builtin.Range.rangeSize a b c = ((n : Nat) : Int)) (hsz : n ≤ sizeLine)
    (h : ∀ g, CompRest prog w A h₀ L m env elt x scope cl { s₁ with heap := g } (fun _ => True) (fun i v => ∃ t, v = .int (a + (i : Int) * c) t) (Fin { s₁ with heap := g }) n 0 [] news) :
    SrcW prog w A h₀ L m env elt x scope cl Fin (.ref r) s₁ := by
  refine ⟨_, n, _, _, news, F, N, hsz, fun Q' E' hq => wpAny_pyIter_range hr hsm hq, Walks.range hh s₁.heap.objs.size a c n, fun i h st => ⟨_, st⟩, ?_, fun _ ⟨g, e⟩ => e ▸ h g⟩
  show IsRangeIter _ _ _ _ _
  rw [hn]; simpa using Heap.get?_push_size _ rfl
theorem SrcW.str {elt : Expr} {x : Str} {scope : Scope} {cl : List (Str × Addr)} {Fin : Shared → List Value → List (Addr × Obj) → Prop} {z : Str} {t : Tok} {news : List (Addr × Obj)} {s₁ : Shared}
    (hh : A.handled = none) (F : Fr h₀ L s₁.heap m) (N : News h₀ L s₁.heap news) (hsz : z.cps.size ≤ sizeLine)
    (h : ∀ g, CompRest prog w A h₀ L m env elt x scope cl { s₁ with heap := g } (fun _ => True) (SignAt z) (Fin { s₁ with heap := g }) z.cps.size 0 [] news) :
    SrcW prog w A h₀ L m env elt x scope cl Fin (.str z t) s₁ := by
  cases ha : z.cps.all (· < 128)
  · exact ⟨_, _, _, _, news, F, N, hsz, fun Q' E' hq => wpAny_pyIter_wide ha hq, Walks.strWide hh _ z t, fun i h st => by obtain ⟨o, e, _⟩ := st; exact ⟨o, e⟩, ⟨_, Heap.get?_push_size _ rfl, rfl, rfl⟩, fun _ ⟨g, e⟩ => e ▸ h g⟩
  · exact ⟨_, _, _, _, news, F, N, hsz, fun Q' E' hq => wpAny_pyIter_ascii ha hq, Walks.strAscii hh _ z t, fun i h st => by obtain ⟨o, e, _⟩ := st; exact ⟨o, e⟩, ⟨_, Heap.get?_push_size _ rfl, rfl, rfl⟩, fun _ ⟨g, e⟩ => e ▸ h g⟩
theorem mem_of_range {a c : Int} {n : Nat} : ∀ (i : Nat) (v : Value), i < n → (∃ t, v = .int (a + (i : Int) * c) t) → ∃ k t, ((List.range n).map fun i => a + ((i : Nat) : Int) * c)[i]? = some k ∧ v = .int k t := fun i v hi ⟨t, e⟩ =>
  ⟨_, t, by rw [List.getElem?_map, List.getElem?_range hi]; rfl, e⟩
theorem mem_of_sign {z : Str} : ∀ (i : Nat) (v : Value), i < z.cps.size → SignAt z i v → ∃ k t, (z.cps.toList)[i]? = some k ∧ v = .str ⟨#[k]⟩ t := fun i v _ ⟨c, t, e, f⟩ => ⟨c, t, by rw [Array.getElem?_toList]; exact e, f⟩
theorem rest_gen {α : Type} {elt : Expr} {x : Str} {scope : Scope} {cl : List (Str × Addr)} {S : List (Addr × Obj) → Prop} {P : Nat → Value → Prop} {Fin : List Value → List (Addr × Obj) → Prop} {news : List (Addr × Obj)}
    {n : Nat} {ks : List α} (val : α → Tok → Value) (g : α → Int) (hks : ks.length = n) (hP : ∀ i v, i < n → P i v → ∃ k t, ks[i]? = some k ∧ v = val k t)
    (turn : ∀ k t I oI C oC D m₂ ys h tk (E' : Value → Shared → Prop), k ∈ ks → LCg.NsObj oC m₂ → m₂ x = some (val k t) → Fr h₀ L h m → News h₀ L h ((I, oI) :: (C, oC) :: (D, LCg.lst ys) :: news) → LCg.Off3 I C D news → ((@Ne Nat I C) ∧ (@Ne Nat I D) ∧ (@Ne Nat C D)) → KPfMark →
      wpAny (model prog w) A (eval elt (compEnvC scope cl C env)) (LCg.CompEnd h₀ L m { s with heap := h, toks := tk } I oI C oC D (LCg.lst ys) S (fun y news' => KCfEl news (g k) y news')) E' { s with heap := h, toks := tk })
    (fin : ∀ ys, IntsAre ys (ks.map g) → Fin ys news) : LCg.CompRest prog w A h₀ L m env elt x scope cl s S P Fin n 0 [] news := by
  have key : ∀ (j i : Nat) (ys : List Value), i + j = n → IntsAre ys ((ks.take i).map g) → LCg.CompRest prog w A h₀ L m env elt x scope cl s S P Fin j i ys news := by
    intro j
    induction j with
    | zero =>
      intro i ys hi hy
      have e : i = ks.length := by exact dn30 0x3efb8002e01bcc0b8040 (by k_ne) hks hi
      subst e
      rw [List.take_length] at hy
      exact LCg.CompRest.zero (fin ys hy)
    | succ j ih =>
      intro i ys hi hy
      refine LCg.CompRest.succ ?_
      intro v I oI C oC D m₂ h tk E' hv hC hx F N off ne
      obtain ⟨k, t, hk, hv'⟩ := hP i v (by exact dn30 0x3edc20380afbcd040 (by k_ne) hi) hv
      rw [hv'] at hx
      refine wpAny_mono (turn k t I oI C oC D m₂ ys h tk E' (List.mem_of_getElem? hk) hC hx F N off ne True.intro) (fun y s₂ hq => ?_) fun _ _ e => e
      obtain ⟨h', tk', nw, e, F', N', off', hS, hn, t', hy'⟩ := hq
      rw [hn] at N' off' hS
      refine ⟨h', tk', news, e, F', N', off', hS, ?_⟩
      rw [hy']
      refine ih (i + 1) _ (by exact dn30 0x3ee02bc1bcd0380afbcd040 (by k_ne) hi) ?_
      rw [List.take_add_one, hk]
      simpa using IntsAre.append hy (.cons (g k) t' .nil)
  exact key n 0 [] (by (first | lia | omega)) (by simp only [List.take_zero, List.map_nil]; exact .nil)
end
end Mine
end
section
open PySem PySem.W PyProof.Rows
namespace Mine
noncomputable def paV (env : Env) (m : Str → Option Value) (v : XV) (r : Option PV) : Option PV := match v with
  | .name x => bif (env.kindOf x == some .local) && !(x == Str.ofString "__debug__") then (m x).map .v else none
  | .other => none
  | _ => r
noncomputable def pa (env : Env) (m : Str → Option Value) (e : Expr) : Option PV := paV env m (xV e) (pe env m 8 e)
noncomputable def pas (env : Env) (m : Str → Option Value) : List Expr → Option (List PV)
  | [] => some []
  | e :: r => (pa env m e).bind fun v => (pas env m r).map fun vs => v :: vs
noncomputable def PVK : List PV → (List Value → Prop) → Prop
  | [], K => K []
  | p :: r, K => match p with
    | .i a => ∀ t, PVK r fun vs => K (.int a t :: vs)
    | .v w => PVK r fun vs => K (w :: vs)
section
variable {prog : Program} {w : World} {A : Around} {E : Value → Shared → Prop} {h₀ : Heap} {L a : Addr} {m : Str → Option Value} {cn : Str} {cs : Scope} {ccd : Value} {cl : List (Str × Addr)}
  {h : Heap} {g : Array GenState} {d : Drawn} {o : OsState}
theorem pa_ok (hk : cs.kind = .function) (F : Fr h₀ L h m) {e : Expr} {r : PV} (hr : pa (envX cn cs L a ccd cl) m e = some r) : Evals prog w A E (envX cn cs L a ccd cl) h g d o e r ∧ ∀ rest, starEach (e :: rest) (envX cn cs L a ccd cl) = (false, eval e (envX cn cs L a ccd cl)) :: starEach rest (envX cn cs L a ccd cl) := by
  have hx := xV_ok e
  unfold pa at hr
  generalize hp : pe (envX cn cs L a ccd cl) m 8 e = q at hr
  revert hr hx
  cases xV e with
  | name x =>
    rintro ⟨_, rfl⟩ hr
    refine ⟨?_, fun _ => rfl⟩
    intro k Q hQ
    have hr : (bif ((envX cn cs L a ccd cl).kindOf x == some .local) && !(x == Str.ofString "__debug__") then (m x).map .v else none) = some r := hr
    cases hc : ((envX cn cs L a ccd cl).kindOf x == some .local) && !(x == Str.ofString "__debug__") with
    | false => rw [hc] at hr; cases hr
    | true =>
      rw [hc] at hr
      have hc := Bool.and_eq_true_iff.mp hc
      obtain ⟨v, hm, rfl⟩ := Option.map_eq_some_iff.mp hr
      exact nameX_L (s := ⟨h, g, d, k, o⟩) F hm (hQ _ _ rfl) hk (eq_of_beq hc.1) (by simpa using hc.2)
  | other => intro _ hr; cases hr
  | int i => rintro ⟨_, _, rfl⟩ hr; exact ⟨pe_ok hk F 8 _ _ (hp.trans hr), fun _ => rfl⟩
  | bool i => rintro ⟨_, _, rfl⟩ hr; exact ⟨pe_ok hk F 8 _ _ (hp.trans hr), fun _ => rfl⟩
  | none => rintro ⟨_, _, rfl⟩ hr; exact ⟨pe_ok hk F 8 _ _ (hp.trans hr), fun _ => rfl⟩
  | _ => rintro ⟨_, rfl⟩ hr; exact ⟨pe_ok hk F 8 _ _ (hp.trans hr), fun _ => rfl⟩
theorem args_pure {pos : Pos} (hk : cs.kind = .function) (F : Fr h₀ L h m) : ∀ {es : List Expr} {vs : List PV} {k : Nat} {Q : List Value → Shared → Prop}, pas (envX cn cs L a ccd cl) m es = some vs →
    PVK vs (fun ws => ∀ k', Q ws ⟨h, g, d, k', o⟩) → wpAny (model prog w) A (spliced (backTo pos (starEach es (envX cn cs L a ccd cl)))) Q E ⟨h, g, d, k, o⟩
  | [], vs, k, Q, hp, hQ => by cases hp; exact args_nil (hQ _)
  | e :: es, vs, k, Q, hp, hQ => by
    obtain ⟨v, e1, hp⟩ := Option.bind_eq_some_iff.mp hp
    obtain ⟨ws, e2, rfl⟩ := Option.map_eq_some_iff.mp hp
    have H := pa_ok (prog := prog) (w := w) (A := A) (E := E) (g := g) (d := d) (o := o) hk F e1
    refine args_cons (H.1 k _ fun x k' hx => ?_) (H.2 es)
    cases v with
    | i n => obtain ⟨t, rfl⟩ := hx; exact args_pure hk F e2 (hQ t)
    | v y => obtain rfl := hx; exact args_pure hk F e2 hQ
end
end Mine
end
section
open PySem PySem.W PyProof.Rows
namespace Mine
theorem freshC8 : True := by
  k_with_none
  w_top off
  (try (have _h : ∀ (M : Model) (A : Around) (Q : Flow → _) (E : Value → _) (s : Shared) (e : Env), wpAny M A (execs [] e) Q E s := by (intros; walk1; fail "no")))
  k_with "omega" => (first | with_reducible assumption | exact rm1 (by with_reducible assumption) rfl | exact rm2 (by with_reducible assumption) rfl | exact rm3 (by with_reducible assumption) rfl | exact rm4 (by with_reducible assumption) rfl | exact rm0 (by with_reducible assumption) | with_reducible exact ⟨by with_reducible assumption, by with_reducible assumption⟩ | with_reducible exact Or.inl (by with_reducible assumption) | with_reducible exact Or.inr (by with_reducible assumption) | with_reducible exact i1 (by decide) | with_reducible exact i2 | with_reducible exact i3 | with_reducible exact i4 (by decide) | with_reducible exact j1 (by with_reducible assumption) (by decide) | with_reducible exact j2 (by with_reducible assumption) (by decide) | with_reducible exact i5 (by with_reducible assumption) (by decide) | with_reducible exact i6 (by with_reducible assumption) (by decide) | with_reducible exact i7 (by with_reducible assumption))
  trivial
theorem wordsC8_1 : True := by
  k_with "call type:type" => ((with_reducible show wpAny _ _ (call _ [Value.bytes _ _]) _ _ _); refine PySem.call_type_of (Tx := "bytes") rfl (by decide +kernel) ?_)
  k_with "k_all" => (exact neLow (by assumption))
  trivial
noncomputable def numF (ns : List Int) : Int := ns.foldl (fun a f => a * 64 + f) 0
theorem numF_snoc (pre : List Int) (n : Int) : numF (pre ++ [n]) = numF pre * 64 + n := by
  unfold numF; rw [List.foldl_append, List.foldl_cons, List.foldl_nil]
theorem neOwn {l own : List (Addr × Obj)} {L : Addr} {adr : List Addr} (h : ∀ p ∈ l, p.1 < L) (ho : OwnOff own adr) (ha : L + 1 ∈ adr) : ∀ p ∈ l ++ own, p.1 ≠ L + 1 := fun p hp => by
  rcases List.mem_append.mp hp with hp | hp
  · exact neLow h p hp
  · exact ho p hp _ ha
theorem wordsC8_3 : True := by
  k_with "k_all" => (exact neOwn (by assumption) (by assumption) (.head _))
  k_with "call builtin:len" => (k_here; (with_reducible show wpAny _ _ (call (Value.builtin "len") [Value.ref _]) _ _ _); k_dflt (refine' kst_len ?k1 ?k2 ?k3 ?k4 ?_; (case k1 => k_asm); (case k2 => first | assumption | exact List.mem_cons_of_mem _ (by assumption) | exact List.mem_cons_of_mem _ (List.mem_cons_of_mem _ (by assumption))); (case k3 => exact IntsAre.length (by assumption)); (case k4 => omega); k_whole))
  k_with "eval ListComp" => (k_here; k_dflt (refine ListComp_W (F₀ := by k_asm) (by with_unfolding_all rfl) (by decide) (by rfl) (by decide) (by rfl) ?_))
  trivial
noncomputable def octN (ns : List Int) : List Int := ((List.range (6 * ns.length / 8)).map fun i => ((6 * (ns.length : Int)).fdiv 8 - 1) + ((i : Nat) : Int) * (-1)).map fun k => (((numF ns).fdiv (2 ^ (6 * (ns.length : Int) - 8 * (6 * (ns.length : Int)).fdiv 8).toNat)).fdiv (256 ^ k.toNat)).fmod 256
noncomputable def octF (ns : List Int) : Array UInt8 := ((octN ns).map fun n => n.toNat.toUInt8).toArray
theorem pw256_ne (k : Nat) : (256 : Int) ^ k ≠ 0 := Int.ne_of_gt (Int.pow_pos (by decide))
theorem pw256_py {k : Int} (h0 : k < 20) : ((256 : Int) ^ k.toNat).natAbs.log2 < 9000 := by
  have e : ((256 : Int) ^ k.toNat).natAbs = 2 ^ (8 * k.toNat) := by
    rw [Int.natAbs_pow, Nat.pow_mul]; rfl
  rw [e, Nat.log2_two_pow]
  (first | lia | omega)
theorem small_dn {n : Nat} (h : n ≤ 15) : Builtin.Range.small ((n : Int) - 1) (-1) (-1) = true := PySem.W.small_down (by exact dn10 0x39c0dd00d7e0ae (by k_ne)) (by exact dn10 0xfbaf82bb03740366c0 (by k_ne) h) (by exact dn00 0x39d4dd7e0ae (by k_ne)) (by exact dn00 0xebe0aed4d (by k_ne))
theorem size_dn (n : Nat) : Builtin.Range.rangeSize ((n : Int) - 1) (-1) (-1) = ((n : Nat) : Int) := by
  rw [PySem.W.rangeSize_downNat]; (first | lia | omega)
theorem downB {n : Nat} {a k : Int} (ha : a = (n : Int) - 1) (h : k ∈ (List.range n).map fun i => a + ((i : Nat) : Int) * (-1)) : 0 ≤ k ∧ k < n := by
  obtain ⟨i, hi, rfl⟩ := List.mem_map.mp h
  have := List.mem_range.mp hi
  exact dn21 0x3efbceb402fc75374040e6fc75374040337001ef0374000 (by k_ne) ha this
theorem cnt_eq (n : Nat) : (6 * (n : Int)).fdiv 8 - 1 = ((6 * n / 8 : Nat) : Int) - 1 := by
  rw [Int.fdiv_eq_ediv_of_nonneg _ (by decide)]; exact dn10 0x3bc0dd32531012c0dc94c74012 (by k_ne)
theorem wordsC8_4 : True := by
  k_with "binaryOp FloorDiv int int" => (k_here; (with_reducible refine floordiv_int (pw256_ne _) ?_ (Or.inl (PyProof.noPylong_of_log2 (pw256_py (by omega))))))
  k_with "spliced" => (k_here; (with_reducible show wpAny _ _ (spliced (backTo _ (starEach (_ :: _) _))) _ _ _); k_dflt (refine' args_pure ?w8a ?w8F ?w8p ?_; (case w8a => exact rfl); (case w8F => k_asm); (case w8p => exact rfl); k_whole); (dsimp only [PVK, List.cons_append, List.nil_append]); intros)
  k_with "same" => (repeat (first | with_reducible exact sameE | ((with_reducible refine kstJ ?_ ?_ ?_); rfl; rfl) | ((with_reducible refine updJ ?_ ?_); rfl)))
  k_with "storeName" => (k_here; k_dflt (first | (refine' storeJ ?F ?N ?_ ?a ?b; (case F => k_asm); (case N => k_asm); (case a => rfl); (case b => rfl); k_whole; intro _ _ _ _ _ _) | (refine' storeV ?F ?N ?_ ?a ?b; (case F => k_asm); (case N => k_asm); (case a => rfl); (case b => rfl); k_whole; intro _ _ _ _)); (try k_sweep))
  k_with "execs cons" => (k_here; (with_reducible show wpAny _ _ (execs (Stmt.If _ _ _ _ :: _) _) _ _ _); k_dflt (first | (refine' if_yes ?w9F ?w9p ?w9P ?_ ?w9a ?w9b; (case w9F => k_asm); (case w9p => exact rfl); (case w9P => first | omega | (first | exact rfl | assumption | exact ⟨by first | omega | assumption, by first | exact rfl | assumption | omega⟩)); (case w9a => exact rfl); (case w9b => first | dsimp only [List.cons_append, List.nil_append] | exact rfl); k_whole; intro _) | (refine' if_no ?w9F ?w9p ?w9P ?_ ?w9a ?w9b; (case w9F => k_asm); (case w9p => exact rfl); (case w9P => first | omega | (first | exact rfl | assumption | exact Or.inl (by first | omega | assumption | exact rfl) | exact Or.inr (by first | omega | assumption | exact rfl))); (case w9a => exact rfl); (case w9b => first | dsimp only [List.cons_append, List.nil_append] | exact rfl); k_whole; intro _)))
  k_with "execs cons" => (k_here; (with_reducible show wpAny _ _ (execs (Stmt.Assign [Expr.Name _ _] _ _ :: _) _) _ _ _); k_dflt (refine' as_int ?w9F ?w9N ?w9p ?_ ?w9a ?w9b ?w9c; (case w9F => k_asm); (case w9N => k_asm); (case w9p => exact rfl); (case w9a => exact rfl); (case w9b => exact rfl); (case w9c => exact rfl); k_whole; intro _ _ _ _ _ _; (try k_sweep)))
  trivial
section
variable {w : World} {base : Heap} {news : News0}
set_option maxRecDepth 100000
set_option maxHeartbeats 8000000
theorem c_law_octets (l : Addr) (vs : List Value) (ns : List Int) (n : Nat) (hm : (l, listOf vs.toArray n) ∈ news) (hI : IntsAre vs ns) (hlen : ns.length ≤ 20) (hb : ∀ f ∈ ns, 0 ≤ f ∧ f < 64) : Con w 1 base news (call (.ref 339) [.ref l])
    (fun G => ∀ t, G (.bytes (octF ns) t) news) := by
  refine Con.mk ?_
  intro p loose mean mg mb dp un gd cn cns cg cc cm a ccd cl outer A₀ h₀ L m s Q E B F X N T hd hu hret
  refine wpAny_call ?_
  k_dflt k_enter
  k_steps
  (k_here; (rename Fr _ _ _ _ => lF'); (k_dflt (with_unfolding_all refine' For_invVF lF' ?k1 ?k2 ?_; (case k1 => exact rfl); (case k2 => exact rfl); k_whole)))
  k_steps
  rename Fr _ _ _ _ => lF'
  rename News _ _ _ _ => lN'
  k_dflt (with_unfolding_all refine' kst_listL (σ := Obj × Int) (fun c => (_, c.1) :: news) (fun _ => []) (fun c => ∃ t, c.1.data = .cell (some (.int c.2 t))) [] (fun pre c => c.2 = numF pre) (_, 0) (by rfl) (fun c => List.mem_cons_of_mem _ hm) hI lF' lN' ⟨_, by assumption⟩ (fun _ hp => nomatch hp) rfl ?_ ?_)
  · rintro ⟨o9, x9⟩ pre post n9 t9 u9 h9 tk9 own9 e9 hn9 hoff9 ⟨t8, hd9⟩ hp9 F9 N9
    clear lF' lN'
    dsimp only at hd9 hp9 N9
    simp only [List.cons_append] at N9
    k_steps
    rename Obj => o7
    rename Fr _ _ _ _ => F7
    rename News _ _ _ _ => N7
    exact kst_end (o7, x9 * 64 + n9) F7 N7 (fun p hp => (List.mem_cons.mp hp).elim (fun e => e ▸ .head _) fun hp => .tail _ (List.mem_append_left _ hp)) (fun p hp => .tail _ (List.mem_append_right _ hp)) rfl ⟨_, by assumption⟩ (fun _ hp => nomatch hp) (fun z hz _ _ => (if_neg hz).trans rfl) (by show _ = _; rw [numF_snoc, ← hp9])
  · rintro ⟨o9, x9⟩ u9 h9 tk9 ⟨t8, hd9⟩ hp9 F9 N9
    clear lF' lN'
    dsimp only at hd9 hp9 N9
    have hMk := kstMark
    k_steps
    rename IsRange _ _ _ _ _ _ _ _ => rgX
    refine SrcW.range (n := 6 * ns.length / 8) (by rfl) (by k_asm) (by k_asm) rgX ?hsm ?hn ?hsz fun g => ?_
    case hsm =>
      rw [cnt_eq]
      exact small_dn (by exact dn10 0x3ed9bc94c404b6800 (by k_ne) hlen)
    case hn =>
      rw [cnt_eq]
      exact size_dn _
    case hsz => rw [PySem.sizeLine_eq]; exact dn10 0x3ed8000000000004000002dc94c404b6800 (by k_ne) hlen
    refine kcf_rest (ks := (List.range (6 * ns.length / 8)).map fun i => ((6 * (ns.length : Int)).fdiv 8 - 1) + ((i : Nat) : Int) * (-1)) (fun k => ((x9.fdiv (2 ^ (6 * (ns.length : Int) - 8 * (6 * (ns.length : Int)).fdiv 8).toNat)).fdiv (256 ^ k.toNat)).fmod 256) (by simp) mem_of_range (fun k' t' I' oI' C' oC' D' m' ys' h' tk' E' hk' hC' hx' F' N' off' ne' mk' => ?_) ?_
    · clear F9 N9
      obtain ⟨hk0, hk1⟩ := downB (cnt_eq _) hk'
      have hk2 : 6 * ns.length / 8 ≤ 15 := by exact dn10 0x3ed9bc94c404b6800 (by k_ne) hlen
      k_steps
    · show ∀ ys, _ → _
      intro ys hys D8 h8 tk8 F8 N8 off8
      clear F9 N9
      k_steps
      refine bytes_K F8 N8 (by is_list) hys ?hr ?hz (by rfl) ?_
      case hr =>
        intro n hn
        obtain ⟨k, _, rfl⟩ := List.mem_map.mp hn
        exact ⟨Int.fmod_nonneg_of_pos _ (by decide), Int.fmod_lt_of_pos _ (by decide)⟩
      case hz =>
        rw [IntsAre.length hys, PySem.sizeLine_eq, List.length_map, List.length_map, List.length_range]
        exact dn10 0x3ed8000000000004000002dc94c404b6800 (by k_ne) hlen
      intro h7 t7 k7 F7 N7 _
      clear F8 N8
      subst hp9
      k_steps
      rename_i kF kN _ _
      exact hret _ _ _ kF (cb_drop kN fun p hp => List.mem_cons_of_mem _ (List.mem_cons_of_mem _ hp))
end
end Mine
end
section
open PySem PySem.W PyProof.Rows
namespace Mine
theorem freshC9 : True := by
  k_with_none
  w_top off
  (try (have _h : ∀ (M : Model) (A : Around) (Q : Flow → _) (E : Value → _) (s : Shared) (e : Env), wpAny M A (execs [] e) Q E s := by (intros; walk1; fail "no")))
  k_with "omega" => (first | with_reducible assumption | exact rm1 (by with_reducible assumption) rfl | exact rm2 (by with_reducible assumption) rfl | exact rm3 (by with_reducible assumption) rfl | exact rm4 (by with_reducible assumption) rfl | exact rm0 (by with_reducible assumption) | with_reducible exact ⟨by with_reducible assumption, by with_reducible assumption⟩ | with_reducible exact Or.inl (by with_reducible assumption) | with_reducible exact Or.inr (by with_reducible assumption) | with_reducible exact i1 (by decide) | with_reducible exact i2 | with_reducible exact i3 | with_reducible exact i4 (by decide) | with_reducible exact j1 (by with_reducible assumption) (by decide) | with_reducible exact j2 (by with_reducible assumption) (by decide) | with_reducible exact i5 (by with_reducible assumption) (by decide) | with_reducible exact i6 (by with_reducible assumption) (by decide) | with_reducible exact i7 (by with_reducible assumption))
  trivial
theorem wordsC9_1 : True := by
  k_with "call type:type" => ((with_reducible show wpAny _ _ (call _ [Value.bytes _ _]) _ _ _); refine PySem.call_type_of (Tx := "bytes") rfl (by decide +kernel) ?_)
  k_with "k_all" => (exact neLow (by assumption))
  k_with "eval ListComp" => (k_here; k_dflt (refine ListComp_W (F₀ := by k_asm) (by with_unfolding_all rfl) (by decide) (by rfl) (by decide) (by rfl) ?_))
  trivial
noncomputable def bytF (x : Str) : Array UInt8 := ((x.cps.toList.map fun c => ((c : Nat) : Int)).map fun n => n.toNat.toUInt8).toArray
section
variable {w : World} {base : Heap} {news : News0}
set_option maxRecDepth 100000
set_option maxHeartbeats 8000000
theorem c_law_bytes (x : Str) (t : Tok) (hx : ∀ c ∈ x.cps.toList, c < 128) (hl : x.cps.size ≤ 400) : Con w 1 base news (call (.ref 358) [.str x t])
    (fun G => ∀ t, G (.bytes (bytF x) t) news) := by
  refine Con.mk ?_
  intro p loose mean mg mb dp un gd cn cns cg cc cm a ccd cl outer A₀ h₀ L m s Q E B F X N T hd hu hret
  refine wpAny_call ?_
  k_dflt k_enter
  k_steps
  refine SrcW.str (by rfl) (by k_asm) (by k_asm) ?hsz fun g => ?_
  case hsz => rw [PySem.sizeLine_eq]; exact dn10 0x3ed8000000000004000002d036190b00 (by k_ne) hl
  refine rest_gen (ks := x.cps.toList) (fun k t => .str ⟨#[k]⟩ t) (fun k => ((k : Nat) : Int)) (by simp) mem_of_sign (fun k' t' I' oI' C' oC' D' m' ys' h' tk' E' hk' hC' hx' F' N' off' ne' mk' => ?_) ?_
  · k_steps
  · intro ys hys D8 h8 tk8 F8 N8 off8
    k_steps
    refine bytes_K F8 N8 (by is_list) hys ?hr ?hz (by rfl) ?_
    case hr =>
      intro n hn
      obtain ⟨k, hk, rfl⟩ := List.mem_map.mp hn
      have := hx k hk
      exact dn10 0x3ef3a100b34039d00337080b00 (by k_ne) this
    case hz =>
      rw [IntsAre.length hys, PySem.sizeLine_eq, List.length_map, Array.length_toList]
      exact dn10 0x3ed8000000000004000002d036190b00 (by k_ne) hl
    intro h7 t7 k7 F7 N7 _
    clear F8 N8
    k_steps
    rename_i kF kN _ _
    exact hret _ _ _ kF (cb_drop kN fun p hp => List.mem_cons_of_mem _ hp)
end
end Mine
end
section
open PySem PySem.W PyProof.Rows
namespace Mine
theorem let_A {M : Model} {A : Around} {α : Type} {t : Sem α} {Q : α → Shared → Prop} {E : Value → Shared → Prop} {s : Shared} (k : let A' := A; wpAny M A' t Q E s) : wpAny M A t Q E s := k
theorem Con.mk2 {w : World} {k : Nat} {base : Heap} {news : News0} {tree : Sem Value} {Ret : (Value → News0 → Prop) → Prop}
    (H : ∀ (p : Program) (loose : List Str) (mean : ExcName → Option Value) (mg mb : Str → Option Value)
    (dp un : Nat) (gd : Option (List Code)) (cn : Str) (cns : List (Str × NameKind)) (cg cc : Bool) (cm : List (Str × Const)) (a : Addr) (ccd : Value) (cl : List (Str × Addr)) (outer : List Env) (A₀ : Around) (h₀ : Heap) (L : Addr) (m : Str → Option Value) (sh : Heap) (sg : Array GenState) (sd : Drawn) (sk : Nat) (so : OsState)
    (Q E : Value → Shared → Prop), Below A₀ base outer h₀ → Fr h₀ L sh m → (HD.K w.params).In h₀ → News h₀ L sh news → Top p loose mean mg mb h₀ →
    dp + k < recursionLimit → un + 8 * k < cLine →
    Ret (fun r news' => ∀ (h' : Heap) (tk' : Nat), Fr h₀ L h' m → News h₀ L h' news' → Q r ⟨h', sg, sd, tk', so⟩) →
    wpAny (model PG w) (ktrTop dp un gd cn ⟨.function, cns, cg, cc, cm⟩ L a ccd cl outer) tree Q E ⟨sh, sg, sd, sk, so⟩) : Con w k base news tree Ret := by
  intro p loose mean mg mb dp un gd cn cs a ccd cl outer A₀ h₀ L m s Q E B F X N T hk hd hu hret
  obtain ⟨ck, cns, cg, cc, cm⟩ := cs
  cases hk
  obtain ⟨sh, sg, sd, sk, so⟩ := s
  exact H p loose mean mg mb dp un gd cn cns cg cc cm a ccd cl outer A₀ h₀ L m sh sg sd sk so Q E B F X N T hd hu hret
theorem ConS.mk2 {w : World} {k : Nat} {base : Heap} {news : News0} {tree : Sem Value} {Ret : (Value → News0 → Prop) → Prop}
    (H : ∀ (p : Program) (loose : List Str) (mean : ExcName → Option Value) (mg mb : Str → Option Value)
    (dp un : Nat) (gd : Option (List Code)) (cn : Str) (cns : List (Str × NameKind)) (cg cc : Bool) (cm : List (Str × Const)) (a : Addr) (ccd : Value) (cl : List (Str × Addr)) (A₀ : Around) (h₀ : Heap) (L : Addr) (m : Str → Option Value) (sh : Heap) (sg : Array GenState) (sd : Drawn) (sk : Nat) (so : OsState)
    (Q E : Value → Shared → Prop), Below A₀ base [] h₀ → Fr h₀ L sh m → (HD.K w.params).In h₀ → News h₀ L sh news → Top p loose mean mg mb h₀ → (HD.K w.params).In base → Top p loose mean mg mb base →
    dp + k < recursionLimit → un + 8 * k < cLine →
    Ret (fun r news' => ∀ (h' : Heap) (tk' : Nat), Fr h₀ L h' m → News h₀ L h' news' → Q r ⟨h', sg, sd, tk', so⟩) →
    wpAny (model PG w) (ktrTop dp un gd cn ⟨.function, cns, cg, cc, cm⟩ L a ccd cl []) tree Q E ⟨sh, sg, sd, sk, so⟩) : ConS w k base news tree Ret := by
  intro p loose mean mg mb dp un gd cn cs a ccd cl A₀ h₀ L m s Q E B F X N T XB TB hk hd hu hret
  obtain ⟨ck, cns, cg, cc, cm⟩ := cs
  cases hk
  obtain ⟨sh, sg, sd, sk, so⟩ := s
  exact H p loose mean mg mb dp un gd cn cns cg cc cm a ccd cl A₀ h₀ L m sh sg sd sk so Q E B F X N T XB TB hd hu hret
end Mine
end
section
open PySem PySem.W PyProof.Rows
namespace Mine
set_option genSizeOf false
set_option genInjectivity false
noncomputable def upL : List (Str × Value) → (Str → Option Value) → Str → Option Value
  | [], m => m
  | p :: r, m => upL r (fun y => if y = p.1 then some p.2 else m y)
noncomputable def nmsOf : List Expr → Option (List Str)
  | [] => some []
  | e :: r => match xV e with
    | .name x => (nmsOf r).map (x :: ·)
    | _ => none
theorem upLJ {st : List Str} {ps : List (Str × Value)} {m₀ : Str → Option Value} : ∀ {us : List (Str × Value)} {m : Str → Option Value}, (us.all fun u => st.contains u.1 || ps.any fun p => p.1 == u.1) = true → SameJ st ps m m₀ → SameJ st ps (upL us m) m₀
  | [], _, _, h => h
  | _ :: r, _, hx, h => upLJ (us := r) (Bool.and_eq_true_iff.mp hx).2 (updJ (Bool.and_eq_true_iff.mp hx).1 h)
inductive PW where
  | p (v : PV)
  | s (x : Str)
noncomputable def qaC (e : Expr) : Option Str := match e with
  | .Constant c _ _ => (match c with | .str x => some x | _ => none)
  | _ => none
noncomputable def qa (env : Env) (m : Str → Option Value) (e : Expr) : Option PW := match qaC e with
  | some x => some (.s x)
  | none => (pa env m e).map .p
noncomputable def qas (env : Env) (m : Str → Option Value) : List Expr → Option (List PW)
  | [] => some []
  | e :: r => (qa env m e).bind fun v => (qas env m r).map fun vs => v :: vs
noncomputable def valw : List PW → (Nat → Tok) → List Value
  | [], _ => []
  | p :: r, ts => (match p with | .p v => (match v with | .i a => .int a (ts 0) | .v w => w) | .s x => .str x (ts 0)) :: valw r fun n => ts (n + 1)
theorem valw_len : ∀ (vs : List PW) (ts : Nat → Tok), (valw vs ts).length = vs.length
  | [], _ => rfl
  | _ :: r, _ => congrArg (· + 1) (valw_len r _)
theorem noS {α : Type} {x : α} {P : Prop} (h : (none : Option α) = some x) : P := nomatch h
theorem qaC_ok {e : Expr} {x : Str} (h : qaC e = some x) : ∃ k p, e = .Constant (.str x) k p := by
  cases e with
  | Constant c k p => cases c with
    | str y => cases h; exact ⟨k, p, rfl⟩
    | _ => exact noS h
  | _ => exact noS h
noncomputable def pok : Nat → Expr → Bool
  | 0, _ => false
  | n + 1, e => match xV e with
    | .name _ => true
    | .int _ => true
    | .bool _ => true
    | .none => true
    | .bin l _ r => pok n l && pok n r
    | _ => false
noncomputable def qok (es : List Expr) : Bool := es.all fun e => (qaC e).isSome || pok 8 e
noncomputable def consT (t : Tok) (ts : Nat → Tok) : Nat → Tok := fun n => match n with | 0 => t | n + 1 => ts n
section
variable {prog : Program} {w : World} {A : Around} {E : Value → Shared → Prop} {h₀ : Heap} {L a : Addr} {m : Str → Option Value} {cn : Str} {cs : Scope} {ccd : Value} {cl : List (Str × Addr)}
  {h : Heap} {g : Array GenState} {d : Drawn} {o : OsState} {news : List (Addr × Obj)}
theorem asg_names {M : Model} {Q : Unit → Shared → Prop} : ∀ {es : List Expr} {xs : List Str} {vs : List Value} {m : Str → Option Value} {h : Heap} {k : Nat}, Fr h₀ L h m → News h₀ L h news → nmsOf es = some xs → vs.length = xs.length →
    (∀ h' k', let m' := upL (xs.zip vs) m; Fr h₀ L h' m' → News h₀ L h' news → Q () ⟨h', g, d, k', o⟩) → (xs.all fun x => (envX cn cs L a ccd cl).kindOf x == some .local) = true → cs.kind = .function →
    wpAny M A (assignInOrder ((assignEach es (envX cn cs L a ccd cl)).map (·.2)) vs) Q E ⟨h, g, d, k, o⟩
  | [], xs, vs, m, h, k, F, N, hx, hl, K, _, _ => by
    cases hx
    cases List.eq_nil_of_length_eq_zero hl
    exact assignInOrder_nil (K _ _ F N)
  | e :: es, xs, vs, m, h, k, F, N, hx, hl, K, ha, hk => by
    have hx : (match xV e with | .name x => (nmsOf es).map (x :: ·) | _ => none) = some xs := hx
    have he := xV_ok e
    revert hx he
    cases xV e with
    | name x =>
      rintro hx ⟨p, rfl⟩
      obtain ⟨ys, hy, rfl⟩ := Option.map_eq_some_iff.mp hx
      cases vs with
      | nil => cases hl
      | cons v vs =>
        have ha := Bool.and_eq_true_iff.mp ha
        show wpAny M A (assignInOrder (assign (.Name x p) (envX cn cs L a ccd cl) :: (assignEach es (envX cn cs L a ccd cl)).map (·.2)) (v :: vs)) Q E _
        exact assignInOrder_cons (assign_Name (storeX_L (s := ⟨h, g, d, k, o⟩) F N (fun h' F' N' => asg_names F' N' hy (Nat.succ.inj hl) (fun h'' k'' F'' N'' => K h'' k'' F'' N'') ha.2 hk) hk (eq_of_beq ha.1)))
    | _ => intro hx; cases hx
theorem asg_bind {M : Model} {Q : Unit → Shared → Prop} (hk : cs.kind = .function) : ∀ {xs : List Str} {vs : List Value} {m : Str → Option Value} {h : Heap} {k : Nat}, Fr h₀ L h m → News h₀ L h news → vs.length = xs.length →
    (∀ h' k', let m' := upL (xs.zip vs) m; Fr h₀ L h' m' → News h₀ L h' news → Q () ⟨h', g, d, k', o⟩) → (xs.all fun x => (envX cn cs L a ccd cl).kindOf x == some .local) = true →
    wpAny M A (assignInOrder (xs.map fun n => bindName (envX cn cs L a ccd cl) n) vs) Q E ⟨h, g, d, k, o⟩
  | [], vs, m, h, k, F, N, hl, K, _ => by
    cases List.eq_nil_of_length_eq_zero hl
    exact assignInOrder_nil (K _ _ F N)
  | x :: xs, vs, m, h, k, F, N, hl, K, ha => by
    cases vs with
    | nil => cases hl
    | cons v vs =>
      have ha := Bool.and_eq_true_iff.mp ha
      exact assignInOrder_cons (bindName_ (storeX_L (s := ⟨h, g, d, k, o⟩) F N (fun h' F' N' => asg_bind hk F' N' (Nat.succ.inj hl) (fun h'' k'' F'' N'' => K h'' k'' F'' N'') ha.2) hk (eq_of_beq ha.1)))
theorem app_any {x : Str} {l : Addr} {zs : List Value} {c : Nat} {e : Expr} {p1 p2 p3 p4 : Pos} {rest : List Stmt} {Q : Flow → Shared → Prop} {k : Nat} {pl : Sem Bool} (F : Fr h₀ L h m) (N : News h₀ L h news) (hm : m x = some (.ref l)) (hl : (l, listOf zs.toArray c) ∈ news)
    (H : ∀ R : Value → Shared → Prop, (∀ v h' k' news', Fr h₀ L h' m → News h₀ L h' news' → (∃ news'', Upd l (listOf zs.toArray c) (listOf (zs ++ [v]).toArray (c + 1)) news' news'' ∧ ∀ h'' k'', Fr h₀ L h'' m → News h₀ L h'' news'' → wpAny (model prog w) A (execs rest (envX cn cs L a ccd cl)) Q E ⟨h'', g, d, k'', o⟩) → R v ⟨h', g, d, k', o⟩) →
      ∀ k, wpAny (model prog w) A (spliced (backTo p3 (starEach [e] (envX cn cs L a ccd cl)))) (fun vs s => ∃ v, vs = [v] ∧ R v s) E ⟨h, g, d, k, o⟩)
    (hz : zs.toArray.size ≤ sizeLine) (hk : cs.kind = .function) (hx : ((envX cn cs L a ccd cl).kindOf x == some .local && !(x == Str.ofString "__debug__")) = true) (hst : starEach [e] (envX cn cs L a ccd cl) = [(false, eval e (envX cn cs L a ccd cl))])
    (he : eval (.Call (.Attribute (.Name x p1) (Str.ofString "append") p2) [e] [] p3) (envX cn cs L a ccd cl) = (do
      let ov ← eval (.Name x p1) (envX cn cs L a ccd cl)
      standAt p2.atName
      let (f, first) ← holding [ov] (getMethod ov (Str.ofString "append") pl)
      callWith p3 f first (backTo p3 (starEach [e] (envX cn cs L a ccd cl))) []))
    (hi : interactive (envX cn cs L a ccd cl) = false) (hs : swapsWith (.Call (.Attribute (.Name x p1) (Str.ofString "append") p2) [e] [] p3) none p4.line (envX cn cs L a ccd cl) = pure false) :
    wpAny (model prog w) A (execs (.Expr (.Call (.Attribute (.Name x p1) (Str.ofString "append") p2) [e] [] p3) p4 :: rest) (envX cn cs L a ccd cl)) Q E ⟨h, g, d, k, o⟩ := by
  have hx := Bool.and_eq_true_iff.mp hx
  refine wpAny_execs_cons (wpAny_Expr_any (MethodCall_ ?_ he) hi hs)
  · refine nameX_L (s := ⟨h, g, d, k, o⟩) F hm ?_ hk (eq_of_beq hx.1) (by simpa using hx.2)
    refine listMethod_K N hl PySem.F.slot_list_append PySem.F.type_list_append ?_
    refine callWith_method1 (wpAny_mono (H (fun v s => wpAny (model prog w) A (call (.builtin "list.append") [.ref l, v]) (fun _ s' => wpAny (model prog w) A (execs rest (envX cn cs L a ccd cl)) Q E s') E s) (fun v h' k' news' F' N' hU => ?_) k) ?_ fun _ _ x => x) hst rfl
    · obtain ⟨news'', U, K⟩ := hU
      rw [← List.push_toArray] at U
      exact append_K (s := ⟨h', g, d, k', o⟩) F' N' U (fun h'' F'' N'' => K h'' k' F'' N'') hz
    · rintro vs s ⟨v, rfl, hv⟩
      exact hv
theorem args_w {pos : Pos} (hk : cs.kind = .function) (F : Fr h₀ L h m) : ∀ {es : List Expr} {vs : List PW} {k : Nat} {Q : List Value → Shared → Prop}, qas (envX cn cs L a ccd cl) m es = some vs →
    (∀ ts k', Q (valw vs ts) ⟨h, g, d, k', o⟩) → wpAny (model prog w) A (spliced (backTo pos (starEach es (envX cn cs L a ccd cl)))) Q E ⟨h, g, d, k, o⟩
  | [], vs, k, Q, hp, hQ => by cases hp; exact args_nil (hQ (fun _ => 0) _)
  | e :: es, vs, k, Q, hp, hQ => by
    obtain ⟨v, e1, hp⟩ := Option.bind_eq_some_iff.mp hp
    obtain ⟨ws, e2, rfl⟩ := Option.map_eq_some_iff.mp hp
    unfold qa at e1
    split at e1
    · next x hx =>
      cases e1
      obtain ⟨kk, pp, rfl⟩ := qaC_ok hx
      exact args_cons (Calls.Constant_str (args_w hk F e2 fun ts k' => hQ (consT k ts) k')) rfl
    · next hx =>
      obtain ⟨v, e3, rfl⟩ := Option.map_eq_some_iff.mp e1
      have H := pa_ok (prog := prog) (w := w) (A := A) (E := E) (g := g) (d := d) (o := o) hk F e3
      refine args_cons (H.1 k _ fun x k' hx => ?_) (H.2 es)
      cases v with
      | i n => obtain ⟨t, rfl⟩ := hx; exact args_w hk F e2 fun ts k' => hQ (consT t ts) k'
      | v y => obtain rfl := hx; exact args_w hk F e2 fun ts k' => hQ (consT 0 ts) k'
theorem upd_mem {D : Addr} {o o' : Obj} {l l' : List (Addr × Obj)} (U : Upd D o o' l l') : (D, o) ∈ l := by
  obtain ⟨pre, post, rfl, _, _, _⟩ := U.split
  exact List.mem_append_right _ (.head _)
theorem sz_ok {zs : List Value} (h : zs.length ≤ 2000) : zs.toArray.size ≤ sizeLine := by
  rw [List.size_toArray, PySem.sizeLine_eq]
  exact Nat.le_trans h (by decide)
theorem app_tup {x : Str} {l : Addr} {zs : List Value} {c : Nat} {p1 p2 p3 p4 : Pos} {rest : List Stmt} {Q : Flow → Shared → Prop} {k : Nat} {pl : Sem Bool} {es : List Expr} {kk : Nat} {p0 : Pos} {vs : List PW} {news' : Value → List (Addr × Obj)} (F : Fr h₀ L h m) (N : News h₀ L h news) (hm : m x = some (.ref l)) (_hq : qok es = true) (hp : qas (envX cn cs L a ccd cl) m es = some vs)
    (U : ∀ v, Upd l (listOf zs.toArray c) (listOf (zs ++ [v]).toArray (c + 1)) news (news' v)) (hz : zs.length ≤ 2000) (hv : vs.length ≤ 64)
    (K : ∀ ts D h' k', Fr h₀ L h' m → News h₀ L h' ((D, ({ cls := .type "tuple", data := .seq (valw vs ts).toArray } : Obj)) :: news' (.ref D)) → (∀ p ∈ news, p.1 < D) → wpAny (model prog w) A (execs rest (envX cn cs L a ccd cl)) Q E ⟨h', g, d, k', o⟩) (hk : cs.kind = .function) (hx : ((envX cn cs L a ccd cl).kindOf x == some .local && !(x == Str.ofString "__debug__")) = true)
    (he : eval (.Call (.Attribute (.Name x p1) (Str.ofString "append") p2) [.Tuple es kk p0] [] p3) (envX cn cs L a ccd cl) = (do
      let ov ← eval (.Name x p1) (envX cn cs L a ccd cl)
      standAt p2.atName
      let (f, first) ← holding [ov] (getMethod ov (Str.ofString "append") pl)
      callWith p3 f first (backTo p3 (starEach [.Tuple es kk p0] (envX cn cs L a ccd cl))) []))
    (hi : interactive (envX cn cs L a ccd cl) = false) (hs : swapsWith (.Call (.Attribute (.Name x p1) (Str.ofString "append") p2) [.Tuple es kk p0] [] p3) none p4.line (envX cn cs L a ccd cl) = pure false) : wpAny (model prog w) A (execs (.Expr (.Call (.Attribute (.Name x p1) (Str.ofString "append") p2) [.Tuple es kk p0] [] p3) p4 :: rest) (envX cn cs L a ccd cl)) Q E ⟨h, g, d, k, o⟩ := by
  refine app_any F N hm (upd_mem (U .none)) (fun R hR k => args_cons (Tuple_ (args_w hk F hp fun ts k' => ?_)) rfl) (sz_ok hz) hk hx rfl he hi hs
  refine kup_newTuple (s := ⟨h, g, d, k', o⟩) F N (fun D h' F' N' hlt => args_nil ⟨_, rfl, hR _ h' k' _ F' N' ⟨_, Upd.tail (Nat.ne_of_gt (hlt _ (upd_mem (U .none)))) (U _), fun h'' k'' F'' N'' => K ts D h'' k'' F'' N'' hlt⟩⟩) ?_
  rw [valw_len]
  exact Nat.le_trans hv (by rw [PySem.sizeLine_eq]; decide)
theorem app_v {x : Str} {l : Addr} {zs : List Value} {c : Nat} {p1 p2 p3 p4 : Pos} {rest : List Stmt} {Q : Flow → Shared → Prop} {k : Nat} {pl : Sem Bool} {e : Expr} {v : Value} {news' : List (Addr × Obj)} (F : Fr h₀ L h m) (N : News h₀ L h news) (hm : m x = some (.ref l)) (_hq : pok 8 e = true) (hp : pas (envX cn cs L a ccd cl) m [e] = some [.v v])
    (U : Upd l (listOf zs.toArray c) (listOf (zs ++ [v]).toArray (c + 1)) news news') (hz : zs.length ≤ 2000)
    (K : ∀ h' k', Fr h₀ L h' m → News h₀ L h' news' → wpAny (model prog w) A (execs rest (envX cn cs L a ccd cl)) Q E ⟨h', g, d, k', o⟩) (hk : cs.kind = .function) (hx : ((envX cn cs L a ccd cl).kindOf x == some .local && !(x == Str.ofString "__debug__")) = true)
    (hst : starEach [e] (envX cn cs L a ccd cl) = [(false, eval e (envX cn cs L a ccd cl))]) (he : eval (.Call (.Attribute (.Name x p1) (Str.ofString "append") p2) [e] [] p3) (envX cn cs L a ccd cl) = (do
      let ov ← eval (.Name x p1) (envX cn cs L a ccd cl)
      standAt p2.atName
      let (f, first) ← holding [ov] (getMethod ov (Str.ofString "append") pl)
      callWith p3 f first (backTo p3 (starEach [e] (envX cn cs L a ccd cl))) []))
    (hi : interactive (envX cn cs L a ccd cl) = false) (hs : swapsWith (.Call (.Attribute (.Name x p1) (Str.ofString "append") p2) [e] [] p3) none p4.line (envX cn cs L a ccd cl) = pure false) : wpAny (model prog w) A (execs (.Expr (.Call (.Attribute (.Name x p1) (Str.ofString "append") p2) [e] [] p3) p4 :: rest) (envX cn cs L a ccd cl)) Q E ⟨h, g, d, k, o⟩ :=
  app_any F N hm (upd_mem U) (fun R hR k => args_pure hk F hp fun k' => ⟨_, rfl, hR _ _ k' _ F N ⟨_, U, fun h'' k'' F'' N'' => K h'' k'' F'' N''⟩⟩) (sz_ok hz) hk hx hst he hi hs
theorem app_i {x : Str} {l : Addr} {zs : List Value} {c : Nat} {p1 p2 p3 p4 : Pos} {rest : List Stmt} {Q : Flow → Shared → Prop} {k : Nat} {pl : Sem Bool} {e : Expr} {n : Int} {news' : Tok → List (Addr × Obj)} (F : Fr h₀ L h m) (N : News h₀ L h news) (hm : m x = some (.ref l)) (_hq : pok 8 e = true) (hp : pas (envX cn cs L a ccd cl) m [e] = some [.i n])
    (U : ∀ t, Upd l (listOf zs.toArray c) (listOf (zs ++ [Value.int n t]).toArray (c + 1)) news (news' t)) (hz : zs.length ≤ 2000)
    (K : ∀ t h' k', Fr h₀ L h' m → News h₀ L h' (news' t) → wpAny (model prog w) A (execs rest (envX cn cs L a ccd cl)) Q E ⟨h', g, d, k', o⟩) (hk : cs.kind = .function) (hx : ((envX cn cs L a ccd cl).kindOf x == some .local && !(x == Str.ofString "__debug__")) = true)
    (hst : starEach [e] (envX cn cs L a ccd cl) = [(false, eval e (envX cn cs L a ccd cl))]) (he : eval (.Call (.Attribute (.Name x p1) (Str.ofString "append") p2) [e] [] p3) (envX cn cs L a ccd cl) = (do
      let ov ← eval (.Name x p1) (envX cn cs L a ccd cl)
      standAt p2.atName
      let (f, first) ← holding [ov] (getMethod ov (Str.ofString "append") pl)
      callWith p3 f first (backTo p3 (starEach [e] (envX cn cs L a ccd cl))) []))
    (hi : interactive (envX cn cs L a ccd cl) = false) (hs : swapsWith (.Call (.Attribute (.Name x p1) (Str.ofString "append") p2) [e] [] p3) none p4.line (envX cn cs L a ccd cl) = pure false) : wpAny (model prog w) A (execs (.Expr (.Call (.Attribute (.Name x p1) (Str.ofString "append") p2) [e] [] p3) p4 :: rest) (envX cn cs L a ccd cl)) Q E ⟨h, g, d, k, o⟩ :=
  app_any F N hm (upd_mem (U 0)) (fun R hR k => args_pure hk F hp fun t k' => ⟨_, rfl, hR _ _ k' _ F N ⟨_, U t, fun h'' k'' F'' N'' => K t h'' k'' F'' N''⟩⟩) (sz_ok hz) hk hx hst he hi hs
end
end Mine
end
section
open PySem PySem.W PyProof.Rows
namespace Mine
theorem freshC10 : True := by
  k_with_none
  w_top off
  (try (have _h : ∀ (M : Model) (A : Around) (Q : Flow → _) (E : Value → _) (s : Shared) (e : Env), wpAny M A (execs [] e) Q E s := by (intros; walk1; fail "no")))
  k_with "omega" => (first | with_reducible assumption | exact rm1 (by with_reducible assumption) rfl | exact rm2 (by with_reducible assumption) rfl | exact rm3 (by with_reducible assumption) rfl | exact rm4 (by with_reducible assumption) rfl | exact rm0 (by with_reducible assumption) | with_reducible exact ⟨by with_reducible assumption, by with_reducible assumption⟩ | with_reducible exact Or.inl (by with_reducible assumption) | with_reducible exact Or.inr (by with_reducible assumption) | with_reducible exact i1 (by decide) | with_reducible exact i2 | with_reducible exact i3 | with_reducible exact i4 (by decide) | with_reducible exact j1 (by with_reducible assumption) (by decide) | with_reducible exact j2 (by with_reducible assumption) (by decide) | with_reducible exact i5 (by with_reducible assumption) (by decide) | with_reducible exact i6 (by with_reducible assumption) (by decide) | with_reducible exact i7 (by with_reducible assumption))
  trivial
theorem wordsC10_1 : True := by
  k_with "call type:type" => ((with_reducible show wpAny _ _ (call _ [Value.bytes _ _]) _ _ _); refine PySem.call_type_of (Tx := "bytes") rfl (by decide +kernel) ?_)
  k_with "k_all" => (exact neLow (by assumption))
  k_with "call ref" => (k_here; k_dflt (refine' Con.use (c_truth _) ?k1 ?k2 ?k3 ?k4 ?k5 ?k6 ?k7 ?k8 ?_; (case k1 => k_asm); (case k2 => k_asm); (case k3 => k_asm); (case k4 => k_asm); (case k5 => k_asm); (case k6 => exact rfl); (case k7 => ((try dsimp only [A9]); ktr_room)); (case k8 => ((try dsimp only [A9]); ktr_units)); k_whole); intro _ _ _ _; (try k_sweep))
  k_with "call ref" => (k_here; k_dflt (refine' Con.use (c_buffer _ _) ?k1 ?k2 ?k3 ?k4 ?k5 ?k6 ?k7 ?k8 ?_; (case k1 => k_asm); (case k2 => k_asm); (case k3 => k_asm); (case k4 => k_asm); (case k5 => k_asm); (case k6 => exact rfl); (case k7 => ((try dsimp only [A9]); ktr_room)); (case k8 => ((try dsimp only [A9]); ktr_units)); k_whole); intro _ _ _ _; (try k_sweep))
  trivial
noncomputable def b64c (i : Int) : Int := if i < 26 then i + 65 else if i < 52 then i + 71 else if i < 62 then i - 4 else if i = 62 then 43 else 47
theorem b64_tab {x : List UInt8} {i : Int} (h0 : 0 ≤ i) (h1 : i ≤ 63) (hx : ((List.range 64).all fun j => ((x.getD j 0).toNat : Int) == b64c ((j : Nat) : Int)) = true) : (((x.getD i.toNat 0).toNat : Nat) : Int) = b64c i := by
  have h := List.all_eq_true.mp hx i.toNat (List.mem_range.mpr (by (first | lia | omega)))
  have e := eq_of_beq h
  rw [e, Int.toNat_of_nonneg h0]
noncomputable abbrev encZ (lc x : Int) : Int := Builtin.bitAnd (Builtin.bitOr (lc * 2 ^ Int.toNat 8) x) 65535
noncomputable def encStep (c : List Int × Int × Int) (x : Int) : List Int × Int × Int :=
  if c.2.1 = 0 then (c.1 ++ [b64c (Builtin.bitAnd ((encZ c.2.2 x).fdiv (2 ^ 2)) 63)], 2, encZ c.2.2 x)
  else if c.2.1 = 2 then (c.1 ++ [b64c (Builtin.bitAnd ((encZ c.2.2 x).fdiv (2 ^ 4)) 63)], 4, encZ c.2.2 x)
  else (c.1 ++ [b64c (Builtin.bitAnd ((encZ c.2.2 x).fdiv (2 ^ 6)) 63), b64c (Builtin.bitAnd ((encZ c.2.2 x).fdiv (2 ^ 0)) 63)], 0, encZ c.2.2 x)
noncomputable def encAcc (xs : List Int) : List Int × Int × Int := xs.foldl encStep ([], 0, 0)
theorem encAcc_snoc (pre : List Int) (n : Int) : encAcc (pre ++ [n]) = encStep (encAcc pre) n := by
  unfold encAcc; rw [List.foldl_append, List.foldl_cons, List.foldl_nil]
theorem wordsC10_3 : True := by
  k_with "subscriptTail" => (k_here; (with_reducible show wpAny _ _ (subscriptTail _ _ (Value.bytes (List.toArray _) _) (Value.int (Builtin.bitAnd _ (63 : Int)) _)) _ _ _); k_dflt (refine' bytes_item_K ?f ?a ?b ?e ?_; (case f => exact Nat.le_of_ble_eq_true (by decide +kernel)); (case a => exact (and_rng _ (by decide)).1); (case b => exact Int.lt_of_le_of_lt (and_rng _ (by decide)).2 (by decide +kernel)); (case e => exact b64_tab (and_rng _ (by decide)).1 (and_rng _ (by decide)).2 (by decide +kernel)); k_whole))
  trivial
theorem b64c_rng2 {x : Int} (h0 : 0 ≤ x) (h1 : x ≤ 63) : 0 ≤ b64c x ∧ b64c x < 256 := by
  unfold b64c
  refine ite_p (P := fun y => 0 ≤ y ∧ y < 256) (fun h => ?_) fun h' => ite_p (P := fun y => 0 ≤ y ∧ y < 256) (fun h => ?_) fun h' => ite_p (P := fun y => 0 ≤ y ∧ y < 256) (fun h => ?_) fun _ => ite_p (P := fun y => 0 ≤ y ∧ y < 256) (fun _ => by decide) fun _ => by decide
  · clear h1; exact dn01 0x3efbce8402cbc106c039bc106c00cea603900c (by k_ne) h0 h
  · clear h1 h'; exact dn01 0x3efbce8402cbc11ec039bc11ec00ce80d2c03900c (by k_ne) h0 h
  · clear h1 h0; exact dn01 0xfbef3a100b30400e7040033a03eb00ffa034b00 (by k_ne) h' h
theorem b64c_rng (x : Int) : 0 ≤ b64c (Builtin.bitAnd x 63) ∧ b64c (Builtin.bitAnd x 63) < 256 := b64c_rng2 (and_rng x (m := 63) (by decide)).1 (and_rng x (m := 63) (by decide)).2
theorem encStep_in {c : List Int × Int × Int} {x : Int} (h : ∀ n ∈ c.1, 0 ≤ n ∧ n < 256) : ∀ n ∈ (encStep c x).1, 0 ≤ n ∧ n < 256 := by
  unfold encStep
  repeat' split
  all_goals
    intro n hn
    simp only [List.mem_append, List.mem_cons, List.not_mem_nil, or_false] at hn
    rcases hn with hn | hn
    · exact h n hn
    · first
        | (rw [hn]; exact b64c_rng _)
        | (rcases hn with hn | hn <;> (rw [hn]; exact b64c_rng _))
theorem encAcc_in (xs : List Int) : ∀ n ∈ (encAcc xs).1, 0 ≤ n ∧ n < 256 := by
  have key : ∀ (xs : List Int) (c : List Int × Int × Int), (∀ n ∈ c.1, 0 ≤ n ∧ n < 256) → ∀ n ∈ (xs.foldl encStep c).1, 0 ≤ n ∧ n < 256 := by
    intro xs
    induction xs with
    | nil => intro c h; exact h
    | cons x xs ih => intro c h; exact ih _ (encStep_in h)
  exact key xs _ (fun n hn => nomatch hn)
noncomputable def encT (c : List Int × Int × Int) : List Int :=
  if c.2.1 = 2 then c.1 ++ [b64c (Builtin.bitAnd c.2.2 3 * 2 ^ 4), 61, 61] else if c.2.1 = 4 then c.1 ++ [b64c (Builtin.bitAnd c.2.2 15 * 2 ^ 2), 61] else c.1
noncomputable def encF (b : Array UInt8) : Array UInt8 := ((encT (encAcc (KBw.bInts b))).map fun n => n.toNat.toUInt8).toArray
theorem encT_in (xs : List Int) : ∀ n ∈ encT (encAcc xs), 0 ≤ n ∧ n < 256 := by
  have r3 := and_rng (encAcc xs).2.2 (m := 3) (by decide)
  have r15 := and_rng (encAcc xs).2.2 (m := 15) (by decide)
  have a1 := b64c_rng2 (x := Builtin.bitAnd (encAcc xs).2.2 3 * 2 ^ 4) (by exact dn01 0x3ee71102b8033900c (by k_ne) r3.1) (by exact dn01 0x3ee40fecc440ae0393c0 (by k_ne) r3.2)
  have a2 := b64c_rng2 (x := Builtin.bitAnd (encAcc xs).2.2 15 * 2 ^ 2) (by exact dn01 0x3ee71082b8033900c (by k_ne) r15.1) (by exact dn01 0x3ee40fecc420ae0396c0 (by k_ne) r15.2)
  intro n hn
  unfold encT at hn
  repeat' split at hn
  · simp only [List.mem_append, List.mem_cons, List.not_mem_nil, or_false] at hn
    rcases hn with hn | rfl | rfl | rfl
    · exact encAcc_in xs n hn
    · exact a1
    · decide
    · decide
  · simp only [List.mem_append, List.mem_cons, List.not_mem_nil, or_false] at hn
    rcases hn with hn | rfl | rfl
    · exact encAcc_in xs n hn
    · exact a2
    · decide
  · exact encAcc_in xs n hn
theorem wordsC10_4 : True := by
  k_with "subscriptTail" => (k_here; (with_reducible show wpAny _ _ (subscriptTail _ _ (Value.bytes (List.toArray _) _) (Value.int (Builtin.bitAnd _ _ * _) _)) _ _ _); k_dflt (refine' bytes_item_K ?f ?a ?b ?e ?_; (case f => exact Nat.le_of_ble_eq_true (by decide +kernel)); (case a => exact Int.mul_nonneg (and_rng _ (by decide)).1 (by decide)); (case b => exact Int.lt_of_le_of_lt (Int.mul_le_mul_of_nonneg_right (and_rng _ (by decide)).2 (by decide)) (by decide +kernel)); (case e => exact b64_tab (Int.mul_nonneg (and_rng _ (by decide)).1 (by decide)) (Int.le_trans (Int.mul_le_mul_of_nonneg_right (and_rng _ (by decide)).2 (by decide)) (by decide)) (by decide +kernel)); k_whole))
  k_with "spliced" => (k_here; (with_reducible show wpAny _ _ (spliced (backTo _ (starEach (_ :: _) _))) _ _ _); k_dflt (refine' args_pure (g := sg) (d := sd) (o := so) ?w8a ?w8F ?w8p ?_; (case w8a => exact rfl); (case w8F => k_asm); (case w8p => exact rfl); k_whole); (dsimp only [PVK, List.cons_append, List.nil_append]); intros)
  k_with "same" => (repeat (first | with_reducible exact sameE | ((with_reducible refine kstJ ?_ ?_ ?_); rfl; rfl) | ((with_reducible refine updJ ?_ ?_); rfl) | ((with_reducible refine upLJ ?_ ?_); rfl)))
  k_with "storeName" => (k_here; k_dflt (first | (refine' storeJ (g := sg) (d := sd) (o := so) ?F ?N ?_ ?a ?b; (case F => k_asm); (case N => k_asm); (case a => rfl); (case b => rfl); k_whole; intro _ _ _ _ _ _) | (refine' storeV (g := sg) (d := sd) (o := so) ?F ?N ?_ ?a ?b; (case F => k_asm); (case N => k_asm); (case a => rfl); (case b => rfl); k_whole; intro _ _ _ _)); (try k_sweep))
  k_with "execs cons" => (k_here; (with_reducible show wpAny _ _ (execs (Stmt.If _ _ _ _ :: _) _) _ _ _); k_dflt (first | (refine' if_yes (g := sg) (d := sd) (o := so) ?w9F ?w9p ?w9P ?_ ?w9a ?w9b; (case w9F => k_asm); (case w9p => exact rfl); (case w9P => first | (first | lia | omega) | (first | exact rfl | assumption | exact ⟨by first | (first | lia | omega) | assumption, by first | exact rfl | assumption | (first | lia | omega)⟩)); (case w9a => exact rfl); (case w9b => first | dsimp only [List.cons_append, List.nil_append] | exact rfl); k_whole; intro _) | (refine' if_no (g := sg) (d := sd) (o := so) ?w9F ?w9p ?w9P ?_ ?w9a ?w9b; (case w9F => k_asm); (case w9p => exact rfl); (case w9P => first | (first | lia | omega) | (first | exact rfl | assumption | exact Or.inl (by first | (first | lia | omega) | assumption | exact rfl) | exact Or.inr (by first | (first | lia | omega) | assumption | exact rfl))); (case w9a => exact rfl); (case w9b => first | dsimp only [List.cons_append, List.nil_append] | exact rfl); k_whole; intro _)))
  k_with "execs cons" => (k_here; (with_reducible show wpAny _ _ (execs (Stmt.Assign [Expr.Name _ _] _ _ :: _) _) _ _ _); k_dflt (refine' as_int (g := sg) (d := sd) (o := so) ?w9F ?w9N ?w9p ?_ ?w9a ?w9b ?w9c; (case w9F => k_asm); (case w9N => k_asm); (case w9p => exact rfl); (case w9a => exact rfl); (case w9b => exact rfl); (case w9c => exact rfl); k_whole; intro _ _ _ _ _ _; (try k_sweep)))
  k_with "execs cons" => (k_here; (with_reducible show wpAny _ _ (execs (Stmt.Expr (Expr.Call (Expr.Attribute (Expr.Name _ _) _ _) [_] [] _) _ :: _) _) _ _ _); first | ((with_reducible show wpAny _ _ (execs (Stmt.Expr (Expr.Call _ [Expr.Tuple _ _ _] _ _) _ :: _) _) _ _ _); k_dflt (refine' app_tup (g := sg) (d := sd) (o := so) ?w5F ?w5N ?w5m ?w5q ?w5p ?w5U ?w5z ?w5v ?_ ?w5k ?w5x ?w5e ?w5i ?w5s; (case w5q => exact rfl); (case w5F => k_asm); (case w5N => k_asm); (case w5m => exact rfl); (case w5p => exact rfl); (case w5U => (intro _; k_upd)); (case w5z => first | exact Nat.le_of_ble_eq_true rfl | lia | omega | (simp only [List.length_append, List.length_cons, List.length_nil]; first | lia | omega)); (case w5v => exact Nat.le_of_ble_eq_true rfl); (case w5k => exact rfl); (case w5x => exact rfl); (case w5e => exact rfl); (case w5i => exact rfl); (case w5s => exact rfl); k_whole; intro _ _ _ _ _ w5n w5l; (try dsimp only [valw] at w5n); (try k_lt w5l))) | ((fail_if_success (with_reducible show wpAny _ _ (execs (Stmt.Expr (Expr.Call _ [Expr.Tuple _ _ _] _ _) _ :: _) _) _ _ _)); k_dflt (first | (refine' app_v (g := sg) (d := sd) (o := so) ?w5F ?w5N ?w5m ?w5q ?w5p ?w5U ?w5z ?_ ?w5k ?w5x ?w5t ?w5e ?w5i ?w5s; (case w5q => exact rfl); (case w5F => k_asm); (case w5N => k_asm); (case w5m => exact rfl); (case w5p => exact rfl); (case w5U => k_upd); (case w5z => first | exact Nat.le_of_ble_eq_true rfl | lia | omega | (simp only [List.length_append, List.length_cons, List.length_nil]; first | lia | omega)); (case w5k => exact rfl); (case w5x => exact rfl); (case w5t => exact rfl); (case w5e => exact rfl); (case w5i => exact rfl); (case w5s => exact rfl); k_whole; intro _ _ _ w5n; (try dsimp only at w5n)) | (refine' app_i (g := sg) (d := sd) (o := so) ?w5F ?w5N ?w5m ?w5q ?w5p ?w5U ?w5z ?_ ?w5k ?w5x ?w5t ?w5e ?w5i ?w5s; (case w5q => exact rfl); (case w5F => k_asm); (case w5N => k_asm); (case w5m => exact rfl); (case w5p => exact rfl); (case w5U => (intro _; k_upd)); (case w5z => first | exact Nat.le_of_ble_eq_true rfl | lia | omega | (simp only [List.length_append, List.length_cons, List.length_nil]; first | lia | omega)); (case w5k => exact rfl); (case w5x => exact rfl); (case w5t => exact rfl); (case w5e => exact rfl); (case w5i => exact rfl); (case w5s => exact rfl); k_whole; intro _ _ _ _ w5n; (try dsimp only at w5n)))); (try k_sweep))
  k_with "assignInOrder" => (k_here; k_dflt (first | (refine' asg_names (g := sg) (d := sd) (o := so) ?w6F ?w6N ?w6p ?w6l ?_ ?w6a ?w6k; (case w6F => k_asm); (case w6N => k_asm); (case w6p => exact rfl); (case w6l => exact rfl); (case w6a => exact rfl); (case w6k => exact rfl); k_whole; intro _ _ _ _ _) | (refine' asg_bind (g := sg) (d := sd) (o := so) ?w6k ?w6F ?w6N ?w6l ?_ ?w6a; (case w6F => k_asm); (case w6N => k_asm); (case w6l => exact rfl); (case w6a => exact rfl); (case w6k => exact rfl); k_whole; intro _ _ _ _ _)); (try k_sweep))
  trivial
section
variable {w : World} {base : Heap} {news : News0}
set_option maxRecDepth 100000
set_option maxHeartbeats 8000000
theorem c_b64encode (b : Array UInt8) (t : Tok) (hb : b.size ≤ 15) : Con w 3 base news (call (.ref 94) [.bytes b t])
    (fun G => ∀ t, G (.bytes (encF b) t) news) := by
  refine Con.mk2 ?_
  intro p loose mean mg mb dp un gd cn cns cg cc cm a ccd cl outer A₀ h₀ L m sh sg sd sk so Q E B F X N T hd hu hret
  refine wpAny_call ?_
  k_dflt k_enter
  have hMk := kstMark
  (rename Fr _ _ _ _ => lFe); refine fr_let lFe ?_; clear lFe; intro me lFe
  k_steps
  rename Fr _ _ _ _ => lF'
  rename News _ _ _ _ => lN'
  k_dflt (with_unfolding_all refine' KStb.kst_bytes (σ := (List Value × Nat) × (List Int × Int × Int) × Tok × Tok) (fun c => (_, listOf c.1.1.toArray c.1.2) :: news) (fun c => [("leftbits", .int c.2.1.2.1 c.2.2.1), ("leftchar", .int c.2.1.2.2 c.2.2.2)]) (fun c => IntsAre c.1.1 c.2.1.1) [] (fun pre c => (c.2.1.2.1 = 0 ∨ c.2.1.2.1 = 2 ∨ c.2.1.2.1 = 4) ∧ 0 ≤ c.2.1.2.2 ∧ c.2.1.2.2 < 65536 ∧ c.2.1.1.length ≤ 2 * pre.length ∧ c.2.1 = encAcc pre) (([], _), ([], 0, 0), _, _) rfl rfl (by rfl) lF' lN' .nil ?hk ⟨.inl rfl, Int.le_refl _, (by decide : (0 : Int) < 65536), Nat.zero_le _, rfl⟩ ?_ ?_)
  case hk =>
    intro p hp
    rcases List.mem_cons.mp hp with rfl | hp
    · rfl
    rcases List.mem_cons.mp hp with rfl | hp
    · rfl
    · cases hp
  · intro c8
    refine match c8 with | ⟨⟨vs9, n9⟩, ⟨ns9, lb9, lc9⟩, t8, t9⟩ => ?_
    intro pre post x9 t7 u9 h9 tk9 own9 e9 hpl hx0 hx1 hoff9 hI9 hP9 F9 N9
    clear lF' lN'
    refine opqG fun G8 hG8 => ?_
    obtain ⟨hlb, hl0, hl1, hln, hE⟩ := hP9
    refine hG8 ?_
    clear hG8 G8
    dsimp only at hlb hl0 hl1 hln hE hI9 F9 N9
    refine fr_let F9 ?_
    clear F9
    intro mf9 F9
    refine opqQ fun RR hRR => ?_
    refine let_A ?_
    intro A9
    simp only [List.cons_append] at N9
    have hbl : (KBw.bInts b).length = b.size := by simp [KBw.bInts]
    have hpb : pre.length < 15 := by exact dn30 0x3efbeddb078002dc20766c0 (by k_ne) hb hpl hbl
    have hvl := IntsAre.length hI9
    rcases hlb with rfl | rfl | rfl
    · k_steps
      rename Fr _ _ _ _ => F7
      rename News _ _ _ _ => N7
      simp only [List.push_toArray, List.append_assoc, List.cons_append, List.nil_append] at N7
      have zr := and_rng (Builtin.bitOr (lc9 * 2 ^ Int.toNat 8) x9) (m := 65535) (by decide)
      refine hRR _ _ ?_; (show InvEndN _ _ _ _ _ _ _); refine' kst_end ((vs9 ++ [.int _ _], n9 + 1), encStep (ns9, 0, lc9) x9, _, _) F7 N7 (fun p hp => ?hn) (fun p hp => .tail _ (List.mem_append_right _ hp)) ?ha ?hf1 (fun p hp => ?hk) ?hr ⟨?hp1, zr.1, Int.lt_of_le_of_lt zr.2 (by decide), ?hp2, ?hp3⟩
      case ha => rfl
      case hn =>
        rcases List.mem_cons.mp hp with e | hp
        · rw [e]; exact .head _
        · exact .tail _ (List.mem_append_left _ hp)
      case hf1 => exact IntsAre.append hI9 (.cons _ _ .nil)
      case hk =>
        rcases List.mem_cons.mp hp with rfl | hp
        · rfl
        rcases List.mem_cons.mp hp with rfl | hp
        · rfl
        · cases hp
      case hr =>
        refine sameK ?_
        k_extra "same"
      case hp1 => first | exact .inl rfl | exact .inr (.inl rfl) | exact .inr (.inr rfl)
      case hp2 => simp only [encStep]; simp; exact dn20 0x3edb1bcd04ebcd036c41380 (by k_ne) hln
      case hp3 => show _ = _; rw [encAcc_snoc, ← hE]
    · k_steps
      rename Fr _ _ _ _ => F7
      rename News _ _ _ _ => N7
      simp only [List.push_toArray, List.append_assoc, List.cons_append, List.nil_append] at N7
      have zr := and_rng (Builtin.bitOr (lc9 * 2 ^ Int.toNat 8) x9) (m := 65535) (by decide)
      refine hRR _ _ ?_; (show InvEndN _ _ _ _ _ _ _); refine' kst_end ((vs9 ++ [.int _ _], n9 + 1), encStep (ns9, 2, lc9) x9, _, _) F7 N7 (fun p hp => ?hn) (fun p hp => .tail _ (List.mem_append_right _ hp)) ?ha ?hf1 (fun p hp => ?hk) ?hr ⟨?hp1, zr.1, Int.lt_of_le_of_lt zr.2 (by decide), ?hp2, ?hp3⟩
      case ha => rfl
      case hn =>
        rcases List.mem_cons.mp hp with e | hp
        · rw [e]; exact .head _
        · exact .tail _ (List.mem_append_left _ hp)
      case hf1 => exact IntsAre.append hI9 (.cons _ _ .nil)
      case hk =>
        rcases List.mem_cons.mp hp with rfl | hp
        · rfl
        rcases List.mem_cons.mp hp with rfl | hp
        · rfl
        · cases hp
      case hr =>
        refine sameK ?_
        k_extra "same"
      case hp1 => first | exact .inl rfl | exact .inr (.inl rfl) | exact .inr (.inr rfl)
      case hp2 => simp only [encStep]; simp; exact dn20 0x3edb1bcd04ebcd036c41380 (by k_ne) hln
      case hp3 => show _ = _; rw [encAcc_snoc, ← hE]
    · k_steps
      rename Fr _ _ _ _ => F7
      rename News _ _ _ _ => N7
      simp only [List.push_toArray, List.append_assoc, List.cons_append, List.nil_append] at N7
      have zr := and_rng (Builtin.bitOr (lc9 * 2 ^ Int.toNat 8) x9) (m := 65535) (by decide)
      refine hRR _ _ ?_; (show InvEndN _ _ _ _ _ _ _); refine' kst_end ((vs9 ++ [.int _ _, .int _ _], n9 + 1 + 1), encStep (ns9, 4, lc9) x9, _, _) F7 N7 (fun p hp => ?hn) (fun p hp => .tail _ (List.mem_append_right _ hp)) ?ha ?hf2 (fun p hp => ?hk) ?hr ⟨?hp1, zr.1, Int.lt_of_le_of_lt zr.2 (by decide), ?hp2, ?hp3⟩
      case ha => rfl
      case hn =>
        rcases List.mem_cons.mp hp with e | hp
        · rw [e]; exact .head _
        · exact .tail _ (List.mem_append_left _ hp)
      case hf2 => exact IntsAre.append hI9 (.cons _ _ (.cons _ _ .nil))
      case hk =>
        rcases List.mem_cons.mp hp with rfl | hp
        · rfl
        rcases List.mem_cons.mp hp with rfl | hp
        · rfl
        · cases hp
      case hr =>
        refine sameK ?_
        k_extra "same"
      case hp1 => first | exact .inl rfl | exact .inr (.inl rfl) | exact .inr (.inr rfl)
      case hp2 => simp only [encStep]; simp; exact dn20 0x3edb1bcd04ebce036c41380 (by k_ne) hln
      case hp3 => show _ = _; rw [encAcc_snoc, ← hE]
  · intro c8
    refine match c8 with | ⟨⟨vs9, n9⟩, ⟨ns9, lb9, lc9⟩, t8, t9⟩ => ?_
    intro u9 h9 tk9 hlen hI9 hP9 F9 N9
    clear lF' lN'
    refine opqG fun G8 hG8 => ?_
    obtain ⟨hlb, hl0, hl1, hln, hE⟩ := hP9
    refine hG8 ?_
    clear hG8 G8
    dsimp only at hlb hl0 hl1 hln hE hI9 F9 N9
    refine fr_let F9 ?_
    clear F9
    intro mf9 F9
    refine let_A ?_
    intro A9
    have hbl : (KBw.bInts b).length = b.size := by simp [KBw.bInts]
    have hvl := IntsAre.length hI9
    have r3 := and_rng lc9 (m := 3) (by decide)
    have r15 := and_rng lc9 (m := 15) (by decide)
    have hin := encT_in (KBw.bInts b)
    rw [← hE] at hin
    have hfin : encF b = ((encT (ns9, lb9, lc9)).map fun n => n.toNat.toUInt8).toArray := by rw [hE]; rfl
    rcases hlb with rfl | rfl | rfl
    · k_steps
      rename_i kF kN _ _
      rw [hfin] at hret
      exact hret _ _ _ kF (cb_drop kN fun p hp => List.mem_cons_of_mem _ hp)
    · k_steps
      rename Fr _ _ _ _ => F7
      rename News _ _ _ _ => N7
      simp only [List.push_toArray, List.append_assoc, List.cons_append, List.nil_append] at N7
      refine bytes_K F7 N7 (by is_list) (IntsAre.append hI9 (.cons _ _ (.cons _ _ (.cons _ _ .nil)))) hin ?hz (by rfl) ?_
      case hz => rw [PySem.sizeLine_eq]; simp; exact dn40 0x3efbefb6000000000000fffffdb43e010f8002db108e0766c0 (by k_ne) hb hln hbl hvl
      intro h6 t6 k6 F6 N6 _
      clear F7 N7
      k_steps
      rename_i kF kN _ _
      rw [hfin] at hret
      exact hret _ _ _ kF (cb_drop kN fun p hp => List.mem_cons_of_mem _ hp)
    · k_steps
      rename Fr _ _ _ _ => F7
      rename News _ _ _ _ => N7
      simp only [List.push_toArray, List.append_assoc, List.cons_append, List.nil_append] at N7
      refine bytes_K F7 N7 (by is_list) (IntsAre.append hI9 (.cons _ _ (.cons _ _ .nil))) hin ?hz (by rfl) ?_
      case hz => rw [PySem.sizeLine_eq]; simp; exact dn40 0x3efbefb6000000000000fffffeb43e010f8002db108e0766c0 (by k_ne) hb hln hbl hvl
      intro h6 t6 k6 F6 N6 _
      clear F7 N7
      k_steps
      rename_i kF kN _ _
      rw [hfin] at hret
      exact hret _ _ _ kF (cb_drop kN fun p hp => List.mem_cons_of_mem _ hp)
end
end Mine
end
section
open PySem PySem.W PyProof.Rows PySem.Spec PySem.Calls
namespace Mine
section
variable {prog : Program} {w : World} {A₀ A : Around} {s : Shared} {base h₀ g₀ : Heap} {outer : List Env} {env : Env} {L a : Addr} {m : Str → Option Value} {news : List (Addr × Obj)} {K : Frag} {p : Program} {loose : List Str} {mean : ExcName → Option Value} {mg mb : Str → Option Value}
    {R : Result → Shared → Prop} {name qual : Str} {params : Arguments} {body : List Stmt} {scope : Scope} {dV kV doc pm cdv ct oc : Value} {an od : Option Addr} {osl : Array (Option Value)} {f : Addr} {args : Args} {binds : List (Str × Value)}
theorem ktsX_enter (B : Below A₀ base outer h₀) (F : Fr h₀ L s.heap m) (N : News h₀ L s.heap news) (hA : A.frames = some (env :: outer)) (hf : env.frame = some L) (hke : env.scope.kind = .function) :
    ∃ oL es ep, (hideAll s.heap (news.map (·.1))).get? L = some oL ∧ oL.data = .dict es ep ∧ (∀ h', h'.get? L = some oL → Heap.Ns h' L m) ∧ (∀ (sl : Array (Option Value)) h', h'.get? L = some { oL with slots := sl } → Heap.Ns h' L m) ∧
      h₀.StaysIn (hideAll s.heap (news.map (·.1))) ∧ Below A base (env :: outer) (hideAll s.heap (news.map (·.1))) := by
  obtain ⟨_, B₂, st, _⟩ := groundX (R := fun _ _ => True) B F N hA hf hke
  obtain ⟨oL, es, ep, hL, hLd, hLk, hLf⟩ := F.ns
  have nL : L ∉ news.map (·.1) := fun q => by
    obtain ⟨p, hp, e⟩ := List.mem_map.mp q
    exact (N p hp).2.1 e
  exact ⟨oL, es, ep, hideAll_get (news.map (·.1)) hL nL, hLd, fun h' e => ⟨oL, es, ep, e, hLd, hLk, hLf⟩, fun sl h' e => ⟨_, es, ep, e, hLd, hLk, hLf⟩, st, B₂⟩
theorem code_defX0 (B : Below A₀ base [] h₀) (F : Fr h₀ L s.heap m) (X₀ : K.In h₀) (N : News h₀ L s.heap news) (T : Top p loose mean mg mb h₀) (hA : A.frames = some [env]) (hf : env.frame = some L) (hke : env.scope.kind = .function)
    (ho : K.lookup f = some ⟨oc, od, .func (fnOf name qual params body scope dV kV doc pm an cdv ct), osl⟩) (hcd : codeIn K cdv qual = true) (hroom : A.depth < recursionLimit)
    (hbind : BindsTo s (fnOf name qual params body scope dV kV doc pm an cdv ct) args binds) (hloc : ∀ y ∈ binds, scope.names.lookup y.1 = some .local)
    (h : ∀ g L' h₁, Fr h₀ L g m → Fr g L' h₁ (fun y => binds.reverse.lookup y) → News g L' h₁ news → Below A base [env] g → K.In g → Top p loose mean mg mb g → KtsDicts ([env].filterMap (·.frame)) g →
      wpAny (model prog w) (A.deeper (envOf qual scope L' f cdv)) (execs body (envOf qual scope L' f cdv))
        (fun fl s' => LeaveS0 ([env].filterMap (·.frame)) h₀ L m g R (match fl with | .ret v => v | _ => .none) s')
        (fun e s' => wpAny (model prog w) (A.deeper (envOf qual scope L' f cdv)) (leaving (envOf qual scope L' f cdv) e) (fun _ s'' => R (.error e) s'') (fun e' s'' => R (.error e') s'') s')
        { s with heap := h₁, toks := s.toks + binds.length })
    (hco : scope.isCoroutine = false) (hgen : scope.isGenerator = false) (hk : scope.kind = .function)
    (hcell : ∀ x ∈ scope.names, x.2 ≠ .cell) : codeAny (model prog w) A (.call (.ref f) args) R s := by
  have X := X₀.keeps F.keep
  have hfm : [env].filterMap (·.frame) = [L] := by simp [hf]
  refine codeAny_call_def (fd := fnOf name qual params body scope dV kV doc pm an cdv ct) (body := body) (binds := binds) hroom (X _ _ ho) rfl (T.nolimit.keeps F.keep) (codeRec_of X hcd) rfl hbind hcell hloc (fun h₁ hns hk₁ => ?_) hco hgen hk
  obtain ⟨oL, es, ep, hLg, hLd, hN, hNs, st, B₂⟩ := ktsX_enter B F N hA hf hke
  refine wpAny_mono (h _ s.heap.objs.size h₁ ⟨hN _ hLg, st, F.above⟩ ⟨hns, fun b o e => hk₁ b o (of_hideAll _ e), Nat.le_of_eq (hideAll_size _ _)⟩
    (fun p hp => ⟨hk₁ _ _ (N p hp).1, Nat.ne_of_lt (Heap.lt_size (N p hp).1), hideAll_none _ (List.mem_map_of_mem hp)⟩) B₂ (X₀.keeps st) (T.keeps st) (fun b hb => by
      rw [hfm] at hb
      rw [List.mem_singleton.mp hb]
      exact ⟨oL, es, ep, hLg, hLd⟩)) (fun fl s' hl => ?_) fun _ _ y => y
  obtain ⟨g', L', m', news', T', F', N', k⟩ := hl
  have nL₀ : h₀.get? L = none := kts_self F
  obtain ⟨sl, hs⟩ := T'.up hLg
  refine k ⟨hNs sl _ (F'.keep _ _ hs), fun b o e => F'.keep b o (T'.other b o (st b o e) (fun q => by
    rw [hfm] at q
    rw [List.mem_singleton.mp q, nL₀] at e
    cases e)), F.above⟩ fun p hp => ⟨(N' p hp).1, fun q => ?_, ?_⟩
  · have := (N' p hp).2.2; rw [q, hs] at this; cases this
  · cases q : h₀.get? p.1 with
    | none => rfl
    | some o =>
      obtain ⟨sl', hs'⟩ := T'.up (st _ _ q)
      have := (N' p hp).2.2
      rw [hs'] at this
      cases this
end
end Mine
end
section
open PySem PySem.W PyProof.Rows
namespace Mine
structure A2 where
  ns : List Int
  qp : Int
  lc : Int
  p : Int
  i : Int
noncomputable def decStep (st : Bool) (c : A2) (x : Int) : Option A2 :=
  if x = 61 then
    if (2 ≤ c.qp ∧ c.qp + (c.p + 1) ≤ 4) ∨ st = false then some ⟨c.ns, c.qp, c.lc, c.p + 1, c.i + 1⟩ else none
  else if 64 ≤ b64v x then (if st = true then none else some ⟨c.ns, c.qp, c.lc, c.p, c.i + 1⟩)
  else if c.p ≠ 0 ∧ st = true then none
  else if c.qp = 0 then some ⟨c.ns, 1, b64v x, 0, c.i + 1⟩
  else if c.qp = 1 then some ⟨c.ns ++ [Builtin.bitOr (c.lc * 2 ^ Int.toNat 2) ((b64v x).fdiv (2 ^ Int.toNat 4))], 2, Builtin.bitAnd (b64v x) 15, 0, c.i + 1⟩
  else if c.qp = 2 then some ⟨c.ns ++ [Builtin.bitOr (c.lc * 2 ^ Int.toNat 4) ((b64v x).fdiv (2 ^ Int.toNat 2))], 3, Builtin.bitAnd (b64v x) 3, 0, c.i + 1⟩
  else some ⟨c.ns ++ [Builtin.bitOr (c.lc * 2 ^ Int.toNat 6) (b64v x)], 0, 0, 0, c.i + 1⟩
noncomputable def decAcc (st : Bool) (xs : List Int) : Option A2 := xs.foldlM (decStep st) ⟨[], 0, 0, 0, 0⟩
noncomputable def decEnd (c : A2) : Option (Array UInt8) := if c.qp = 1 then none else if c.qp ≠ 0 ∧ c.qp + c.p < 4 then none else some (byteArr c.ns)
noncomputable def readF (x : Str) (st : Bool) : Option (Array UInt8) := (decAcc st (KBw.bInts (bytF x))).bind decEnd
noncomputable def readV : Option (Array UInt8) → Tok → Value
  | none, _ => .none
  | some b, t => .bytes b t
theorem decAcc_snoc (st : Bool) (pre : List Int) (n : Int) : decAcc st (pre ++ [n]) = (decAcc st pre).bind fun c => decStep st c n := by
  unfold decAcc; rw [List.foldlM_append]; cases List.foldlM (decStep st) _ pre <;> simp
theorem decAcc_none {st : Bool} {pre post : List Int} {n : Int} {c : A2} (h : decAcc st pre = some c) (h2 : decStep st c n = none) : decAcc st (pre ++ n :: post) = none := by
  unfold decAcc at h ⊢
  rw [List.foldlM_append, h]
  show List.foldlM (decStep st) c (n :: post) = none
  rw [List.foldlM_cons, h2]; rfl
theorem read_none {x : Str} {st : Bool} {pre post : List Int} {n : Int} {c : A2} (e : KBw.bInts (bytF x) = pre ++ n :: post) (h : decAcc st pre = some c) (h2 : decStep st c n = none) : readF x st = none := by
  unfold readF
  rw [e, decAcc_none h h2]; rfl
theorem read_end {x : Str} {st : Bool} {c : A2} (h : decAcc st (KBw.bInts (bytF x)) = some c) : readF x st = decEnd c := by
  unfold readF
  rw [h]; rfl
noncomputable def A2.ok (c : A2) (k : Nat) : Prop := 0 ≤ c.qp ∧ c.qp ≤ 3 ∧ 0 ≤ c.lc ∧ c.lc < 64 ∧ (c.qp = 2 → c.lc < 16) ∧ (c.qp = 3 → c.lc < 4) ∧ 0 ≤ c.p ∧ c.p ≤ k ∧ 0 ≤ c.i ∧ c.i ≤ k ∧ c.ns.length ≤ k ∧ ∀ n ∈ c.ns, 0 ≤ n ∧ n < 256
theorem A2.ok0 : A2.ok ⟨[], 0, 0, 0, 0⟩ 0 := by refine ⟨?_, ?_, ?_, ?_, ?_, ?_, ?_, ?_, ?_, ?_, ?_, ?_⟩ <;> simp
theorem or_rng {x y : Int} (hx : 0 ≤ x) (hy : 0 ≤ y) (h1 : x < 256) (h2 : y < 256) : 0 ≤ Builtin.bitOr x y ∧ Builtin.bitOr x y < 256 := by
  have e : Builtin.bitOr x y = ((x.toNat ||| y.toNat : Nat) : Int) := by
    rw [bitOr_and, bitAnd_pp hx hy]
    have h3 : ((x.toNat ||| y.toNat : Nat) : Int) + ((x.toNat &&& y.toNat : Nat) : Int) = x + y := by rw [← Int.natCast_add, nat_or_add_and, Int.natCast_add, Int.toNat_of_nonneg hx, Int.toNat_of_nonneg hy]
    rw [← h3]; exact Int.add_sub_cancel _ _
  rw [e]
  have := @Nat.or_lt_two_pow x.toNat y.toNat 8 ((Int.toNat_lt hx).mpr h1) ((Int.toNat_lt hy).mpr h2)
  exact dn10 0x3ef3a100b34039d00337202b80 (by k_ne) this
theorem fdiv_rng {v k : Int} (h0 : 0 ≤ v) (h1 : v < 64) (hk : 0 < k) : 0 ≤ v.fdiv k ∧ v.fdiv k < 64 := by
  rw [Int.fdiv_eq_ediv_of_nonneg _ (by exact dn01 0x3ee4033a00c (by k_ne) hk)]
  exact ⟨Int.ediv_nonneg h0 (by exact dn01 0x3ee4033a00c (by k_ne) hk), Int.lt_of_le_of_lt (Int.ediv_le_self _ h0) h1⟩
theorem b64v_le {x : Int} : 0 ≤ b64v x ∧ b64v x ≤ 64 := by
  unfold b64v
  refine ite_p (P := fun y => 0 ≤ y ∧ y ≤ 64) (fun h => ?_) fun _ => ite_p (P := fun y => 0 ≤ y ∧ y ≤ 64) (fun h => ?_) fun _ => ite_p (P := fun y => 0 ≤ y ∧ y ≤ 64) (fun h => ?_) fun _ => ite_p (P := fun y => 0 ≤ y ∧ y ≤ 64) (fun _ => by decide) fun _ => ite_p (P := fun y => 0 ≤ y ∧ y ≤ 64) (fun _ => by decide) fun _ => by decide
  · exact dn01 0x3efbce4102cc0106c039c0106c00ce416ac03900106c (by k_ne) h.1 h.2
  · exact dn01 0x3efbce4102cc011ec039c011ec00ce41eac03900186c (by k_ne) h.1 h.2
  · exact dn01 0x3efbce4102cbd0039bd000ce40e6c039000c2c (by k_ne) h.1 h.2
theorem b64v_rng {x : Int} (_ : 0 ≤ x) (_ : x < 256) : 0 ≤ b64v x ∧ b64v x ≤ 64 := b64v_le
theorem hv1 {lc v : Int} (h0 : 0 ≤ lc) (h1 : lc < 64) (hv : 0 ≤ v ∧ v ≤ 64) (h64 : ¬ 64 ≤ v) : 0 ≤ Builtin.bitOr (lc * 2 ^ Int.toNat 2) (v.fdiv (2 ^ Int.toNat 4)) ∧ Builtin.bitOr (lc * 2 ^ Int.toNat 2) (v.fdiv (2 ^ Int.toNat 4)) < 256 :=
  or_rng (by show 0 ≤ lc * 4; exact dn01 0x3ee7140033900c (by k_ne) h0) (fdiv_rng hv.1 (by exact dn01 0xfba040b00ff900102c (by k_ne) h64) (by decide)).1 (by show lc * 4 < 256; exact dn01 0x3ee8402cc5003a040b00 (by k_ne) h1) (Int.lt_trans (fdiv_rng hv.1 (by exact dn01 0xfba040b00ff900102c (by k_ne) h64) (by decide)).2 (by decide))
theorem hv2 {lc v : Int} (h0 : 0 ≤ lc) (h1 : lc < 16) (hv : 0 ≤ v ∧ v ≤ 64) (h64 : ¬ 64 ≤ v) : 0 ≤ Builtin.bitOr (lc * 2 ^ Int.toNat 4) (v.fdiv (2 ^ Int.toNat 2)) ∧ Builtin.bitOr (lc * 2 ^ Int.toNat 4) (v.fdiv (2 ^ Int.toNat 2)) < 256 :=
  or_rng (by show 0 ≤ lc * 16; exact dn01 0x3ee7170033900c (by k_ne) h0) (fdiv_rng hv.1 (by exact dn01 0xfba040b00ff900102c (by k_ne) h64) (by decide)).1 (by show lc * 16 < 256; exact dn01 0x3ee8402cc5c03a700 (by k_ne) h1) (Int.lt_trans (fdiv_rng hv.1 (by exact dn01 0xfba040b00ff900102c (by k_ne) h64) (by decide)).2 (by decide))
theorem hv3 {lc v : Int} (h0 : 0 ≤ lc) (h1 : lc < 4) (hv : 0 ≤ v ∧ v ≤ 64) (h64 : ¬ 64 ≤ v) : 0 ≤ Builtin.bitOr (lc * 2 ^ Int.toNat 6) v ∧ Builtin.bitOr (lc * 2 ^ Int.toNat 6) v < 256 :=
  or_rng (by show 0 ≤ lc * 64; exact dn01 0x3ee71040b0033900c (by k_ne) h0) hv.1 (by show lc * 64 < 256; exact dn01 0x3ee8402cc4102c03a400 (by k_ne) h1) (by exact dn01 0xfba100b00ff900102c (by k_ne) h64)
theorem in_snoc {ns : List Int} {n : Int} (h : ∀ n ∈ ns, 0 ≤ n ∧ n < 256) (hn : 0 ≤ n ∧ n < 256) : ∀ k ∈ ns ++ [n], 0 ≤ k ∧ k < 256 := fun k hk => by
  rcases List.mem_append.mp hk with hk | hk
  · exact h k hk
  · rw [List.mem_singleton.mp hk]; exact hn
theorem dec_turn {st : Bool} {pre : List Int} {x : Int} {c c' : A2} (hD : decAcc st pre = some c) (ho : c.ok pre.length) (hx0 : 0 ≤ x) (hx1 : x < 256) (h : decStep st c x = some c') :
    decAcc st (pre ++ [x]) = some c' ∧ c'.ok (pre ++ [x]).length := by
  refine ⟨by rw [decAcc_snoc, hD]; exact h, ?_⟩
  rw [List.length_append, List.length_singleton]
  obtain ⟨o1, o2, o3, o4, o5, o6, o7, o8, o9, o10, o11, o12⟩ := ho
  have hv := b64v_rng hx0 hx1
  unfold decStep at h
  by_cases a1 : x = 61
  · rw [if_pos a1] at h
    split at h
    · cases h; exact ⟨o1, o2, o3, o4, o5, o6, by dsimp only; exact dn01 0x3ee6f34033900c (by k_ne) o7, by dsimp only; exact dn11 0x3ee74bcd02f340e74000 (by k_ne) o8, by dsimp only; exact dn01 0x3ee6f34033900c (by k_ne) o9, by dsimp only; exact dn11 0x3ee74bcd02f340e74000 (by k_ne) o10, Nat.le_succ_of_le o11, o12⟩
    · cases h
  rw [if_neg a1] at h
  by_cases a2 : 64 ≤ b64v x
  · rw [if_pos a2] at h
    split at h
    · cases h
    · cases h; exact ⟨o1, o2, o3, o4, o5, o6, o7, by dsimp only; exact dn11 0x3ee74bcd000e74000 (by k_ne) o8, by dsimp only; exact dn01 0x3ee6f34033900c (by k_ne) o9, by dsimp only; exact dn11 0x3ee74bcd02f340e74000 (by k_ne) o10, Nat.le_succ_of_le o11, o12⟩
  rw [if_neg a2] at h
  split at h
  · cases h
  have hi : 0 ≤ c.i + 1 ∧ c.i + 1 ≤ ((pre.length + 1 : Nat) : Int) := ⟨by exact dn01 0x3ee6f34033900c (by k_ne) o9, by exact dn11 0x3ee74bcd02f340e74000 (by k_ne) o10⟩
  have h0 : (0 : Int) ≤ ((pre.length + 1 : Nat) : Int) := by exact dn10 0xe74bcd00c (by k_ne)
  have hn : ∀ n : Int, (c.ns ++ [n]).length ≤ pre.length + 1 := fun n => by rw [List.length_append, List.length_singleton]; exact Nat.succ_le_succ o11
  have ho11 := Nat.le_succ_of_le o11
  clear o7 o8 o9 o10 o11 hD
  split at h
  · cases h; exact ⟨by dsimp only; decide, by dsimp only; decide, hv.1, Int.not_le.mp a2, fun e => absurd e (by dsimp only; decide), fun e => absurd e (by dsimp only; decide), Int.le_refl 0, h0, hi.1, hi.2, ho11, o12⟩
  split at h
  · have := and_rng (b64v x) (m := 15) (by decide)
    cases h; exact ⟨by dsimp only; decide, by dsimp only; decide, this.1, by dsimp only; exact dn01 0x3ee8102c0396c0 (by k_ne) this.2, fun _ => by dsimp only; exact dn01 0x3ee9c0396c0 (by k_ne) this.2, fun e => absurd e (by dsimp only; decide), Int.le_refl 0, h0, hi.1, hi.2, hn _, in_snoc o12 (hv1 o3 o4 hv a2)⟩
  split at h
  · next hq =>
    have := and_rng (b64v x) (m := 3) (by decide)
    cases h; exact ⟨by dsimp only; decide, by dsimp only; decide, this.1, by dsimp only; exact dn01 0x3ee8102c0393c0 (by k_ne) this.2, fun e => absurd e (by dsimp only; decide), fun _ => by dsimp only; exact dn01 0x3ee900393c0 (by k_ne) this.2, Int.le_refl 0, h0, hi.1, hi.2, hn _, in_snoc o12 (hv2 o3 (o5 hq) hv a2)⟩
  · have h3 : c.qp = 3 := by exact dn01 0xfbefbefbb3c0ffb380ffb340ffb300e4f03900c (by k_ne) o1 o2 ‹_› ‹_› ‹_›
    cases h; exact ⟨Int.le_refl 0, by dsimp only; decide, Int.le_refl 0, by dsimp only; decide, fun e => absurd e (by dsimp only; decide), fun e => absurd e (by dsimp only; decide), Int.le_refl 0, h0, hi.1, hi.2, hn _, in_snoc o12 (hv3 o3 (o6 h3) hv a2)⟩
end Mine
end
section
open PySem PySem.W PyProof.Rows PySem.Builtin
namespace Mine
set_option maxRecDepth 100000
set_option maxHeartbeats 2000000
theorem range4 {n : Nat} (h : 4 ≤ n) : ∃ l, List.range' 0 n 1 = 0 :: 1 :: 2 :: 3 :: l := by
  obtain ⟨k, rfl⟩ : ∃ k, n = k + 4 := ⟨n - 4, by exact dn10 0x3ee2f430400036010 (by k_ne) h⟩
  exact ⟨_, rfl⟩
section
variable {M : Model} {A : Around} {E : Value → Shared → Prop} {s : Shared} {l l' : List Nat} {p : List Value} {r r' : List Nat}
  {f : Nat → List Value × Str.Writer × List Nat → Sem (ForInStep (List Value × Str.Writer × List Nat))} {Q : List Value × Str.Writer × List Nat → Shared → Prop} {w : Str.Writer}
theorem stepR (e : r = r') (h : wpAny M A (forIn l (p, w, r') f) Q E s) : wpAny M A (forIn l (p, w, r) f) Q E s := e ▸ h
theorem stepL (e : l = l') (h : wpAny M A (forIn l' (p, w, r) f) Q E s) : wpAny M A (forIn l (p, w, r) f) Q E s := e ▸ h
end
theorem fmtG (p1 p2 : List Nat) (h1 : (p1 ++ 37 :: 100 :: p2).span (· != 37) = (p1, 37 :: 100 :: p2)) (h1e : p1.isEmpty = false) (h2 : p2.span (· != 37) = (p2, [])) (h2e : p2.isEmpty = false) (hl : p1.length + p2.length ≤ 1000) (hl2 : 2 ≤ p2.length) (t u : Tok) (i : Int) (hi0 : 0 ≤ i) (hi1 : i < 10 ^ 10) (hi2 : i.natAbs.log2 < 1920) (hi3 : ((i.natAbs : Nat) : Int).natAbs.log2 < 1920) :
    Meets (PySem.Builtin.«str.__mod__» ⟨[.str ⟨(p1 ++ 37 :: 100 :: p2).toArray⟩ t, .int i u], []⟩) (fun _ R s => ∀ t' k, R (.ok (.ret (.str ((⟨p1.toArray⟩ ++ PySem.Str.ofString (toString i)) ++ ⟨p2.toArray⟩) t'))) { s with toks := k }) := by
  have hlen : (⟨(p1 ++ 37 :: 100 :: p2).toArray⟩ : PySem.Str).length = p1.length + p2.length + 2 := by simp [PySem.Str.length]; exact dn20 0x38bcebc102fbcdbcd040 (by k_ne)
  have hL1 : List.span.loop (fun x => x != 37) (p1 ++ 37 :: 100 :: p2) [] = (p1, 37 :: 100 :: p2) := h1
  have hL2 : List.span.loop (fun x => x != 37) p2 [] = (p2, []) := h2
  apply KPc.meets_of
  intro _ _ _ _ _ _ hfin
  rw [KPc.entry_is]
  unfold Builtin.Str.percentFormat
  refine wpAny_bind (wpAny_isInstance (typeIs_int _ _ _) F.sub_int_tuple ?_)
  refine wpAny_bind (wpAny_of_eq (a := none) rfl ?_)
  refine wpAny_bind (wpAny_of_eq (KPc.fills _ _) ?_)
  kpc_if
  refine wpAny_bind (wpAny_pure ?_)
  refine wpAny_bind ?_
  rw [KPc.range_list]
  obtain ⟨lr, er⟩ := range4 (n := (⟨(p1 ++ 37 :: 100 :: p2).toArray⟩ : PySem.Str).length) (by exact dn30 0x3efb6050e2f3af00207600e (by k_ne) hl2 hlen)
  refine stepL er ?_
  refine stepR (r' := p1 ++ 37 :: 100 :: p2) rfl ?_
  refine KPc.start ?_
  intro w0 g0
  refine KPc.turn ?_
  kpc_check
  refine wpAny_ite (KPc.ite_no (by simp) ?_)
  refine wpAny_ite (KPc.ite_yes (by dsimp only; rw [hL1]; simp [h1e]) ?_)
  refine wpAny_pure ?_
  refine KPc.after_add0 g0 (congrArg (fun z : List Nat × List Nat => (⟨z.1.toArray⟩ : PySem.Str)) h1) (KPc.obj_none (if_neg (by dsimp only; rw [hL1, hlen]; simp; exact dn20 0xff8bcebc1000 (by k_ne)))) ?_
  intro w1 g1
  have e1 : (List.span (fun x => x != 37) (p1 ++ 37 :: 100 :: p2)).2 = 37 :: 100 :: p2 := by rw [h1]
  refine stepR e1 ?_
  have g1' := KPc.good_mono g1 (K := 2000) (by simp [PySem.Str.length]; exact dn20 0x3ed9f42c0363e8b2f040 (by k_ne) hl)
  clear g1
  refine KPc.turn ?_
  refine wpAny_ite (KPc.ite_no (KPc.short_good g1' (by decide)) ?_)
  (repeat kpc_if)
  refine wpAny_bind ?_
  refine wpAny_holding ?_
  (repeat kpc_if)
  kpc_conv
  refine wpAny_pure ?_
  refine wpAny_pure ?_
  refine KPc.after_int g1' rfl (by kpc_kind) rfl hi0 hi1 rfl (by kpc_none) ?_
  intro w2 g2
  refine KPc.turn ?_
  refine wpAny_ite (KPc.ite_no (KPc.short_good g2 (by decide)) ?_)
  refine wpAny_ite (KPc.ite_no (by dsimp only; rw [h2e]; decide) ?_)
  refine wpAny_ite (KPc.ite_yes (by dsimp only; rw [hL2]; simp [h2e]) ?_)
  refine wpAny_pure ?_
  refine KPc.after_add g2 (congrArg (fun z : List Nat × List Nat => (⟨z.1.toArray⟩ : PySem.Str)) h2) (KPc.obj_none (if_neg (by dsimp only; rw [hL2, hlen]; simp; exact dn20 0xff8bcebc0040 (by k_ne)))) ?_
  intro w3 g3
  have e2 : (List.span (fun x => x != 37) p2).2 = [] := by rw [h2]
  refine stepR e2 ?_
  have g3' := KPc.good_mono g3 (K := 4000) (by simp [PySem.Str.length]; exact dn20 0x3edbe82cbc17dab363e8b2f040 (by k_ne) hl)
  clear g3
  refine KPc.turn ?_
  refine wpAny_ite (KPc.ite_no (KPc.short_good g3' (by decide)) ?_)
  kpc_if
  refine wpAny_pure ?_
  kpc_if
  refine KPc.finish_ok g3' (by decide) rfl ?_
  exact hfin
theorem fmtM (t u : Tok) (i : Int) (hi0 : 0 ≤ i) (hi1 : i < 10 ^ 10) (hi2 : i.natAbs.log2 < 1920) (hi3 : ((i.natAbs : Nat) : Int).natAbs.log2 < 1920) :
    Meets (PySem.Builtin.«str.__mod__» ⟨[.str ⟨("Invalid base64-encoded string: number of data characters (".toList.map Char.toNat ++ 37 :: 100 :: (") cannot be 1 more than a multiple of 4".toList.map Char.toNat)).toArray⟩ t, .int i u], []⟩) (fun _ R s => ∀ t' k, R (.ok (.ret (.str ((⟨("Invalid base64-encoded string: number of data characters (".toList.map Char.toNat).toArray⟩ ++ PySem.Str.ofString (toString i)) ++ ⟨(") cannot be 1 more than a multiple of 4".toList.map Char.toNat).toArray⟩) t'))) { s with toks := k }) :=
  fmtG _ _ (by decide +kernel) (by decide +kernel) (by decide +kernel) (by decide +kernel) (by decide +kernel) (by decide +kernel) t u i hi0 hi1 hi2 hi3
end Mine
end
section
open PySem PySem.W PyProof.Rows
namespace Mine
theorem cutN {prog : Program} {w : World} {A : Around} {E : Value → Shared → Prop} {h₀ : Heap} {L : Addr} {env : Env} {h : Heap} {g : Array GenState} {d : Drawn} {o : OsState} {k : Nat} {ab : List Stmt} {Q : Flow → Shared → Prop}
    {σ : Type} {m : Str → Option Value} (n : Nat) (_F : Fr h₀ L h m) (Led : σ → List (Addr × Obj)) (ms : σ → Str → Option Value) (P : σ → Prop)
    (h1 : ∀ R : Flow → Shared → Prop, (∀ c h' k', Fr h₀ L h' (ms c) → News h₀ L h' (Led c) → P c → R .next ⟨h', g, d, k', o⟩) → (∀ f s', f ≠ .next → Q f s' → R f s') → wpAny (model prog w) A (execs (ab.take n) env) R E ⟨h, g, d, k, o⟩)
    (h2 : ∀ c h' k', Fr h₀ L h' (ms c) → News h₀ L h' (Led c) → P c → wpAny (model prog w) A (execs (ab.drop n) env) Q E ⟨h', g, d, k', o⟩) : wpAny (model prog w) A (execs ab env) Q E ⟨h, g, d, k, o⟩ := by
  have H := h1 (fun f s' => match f with | .next => wpAny (model prog w) A (execs (ab.drop n) env) Q E s' | f => Q f s') (fun c h' k' F N p => h2 c h' k' F N p) (fun f s' hf q => by cases f <;> first | exact (hf rfl).elim | exact q)
  intro Γ p hΓ
  rw [← List.take_append_drop n ab, wp_execs_app]
  refine Sem.wp_mono _ Γ _ (fun f p' s' h' => ?_) (fun _ _ _ h' => h') _ _ (H Γ p hΓ)
  cases f with
  | next => exact h' Γ p' hΓ
  | _ => exact h'
theorem cutM {prog : Program} {w : World} {A : Around} {E : Value → Shared → Prop} {h₀ : Heap} {L : Addr} {env : Env} {h : Heap} {g : Array GenState} {d : Drawn} {o : OsState} {k : Nat} {ab : List Stmt} {Q : Flow → Shared → Prop}
    {σ : Type} {m : Str → Option Value} {led : List (Addr × Obj)} (n : Nat) (F : Fr h₀ L h m) (_N : News h₀ L h led) (ms : σ → Str → Option Value) (P : σ → Prop)
    (h1 : ∀ R : Flow → Shared → Prop, (∀ c h' k', Fr h₀ L h' (ms c) → News h₀ L h' led → P c → R .next ⟨h', g, d, k', o⟩) → (∀ f s', f ≠ .next → Q f s' → R f s') → wpAny (model prog w) A (execs (ab.take n) env) R E ⟨h, g, d, k, o⟩)
    (h2 : ∀ c h' k', Fr h₀ L h' (ms c) → News h₀ L h' led → P c → wpAny (model prog w) A (execs (ab.drop n) env) Q E ⟨h', g, d, k', o⟩) : wpAny (model prog w) A (execs ab env) Q E ⟨h, g, d, k, o⟩ := cutN n F (fun _ => led) ms P h1 h2
theorem frU {h₀ : Heap} {L : Addr} {h : Heap} {x : Str} {v : Option Value} {m m' : Str → Option Value} (F : Fr h₀ L h (fun y => if y = x then v else m' y)) (e : ∀ y, y ≠ x → m' y = m y) : Fr h₀ L h (fun y => if y = x then v else m y) := by
  have q : (fun y => if y = x then v else m' y) = fun y => if y = x then v else m y := by
    funext y
    by_cases hy : y = x
    · rw [if_pos hy, if_pos hy]
    · rw [if_neg hy, if_neg hy, e y hy]
  rw [← q]; exact F
end Mine
end
section
open PySem PySem.W PyProof.Rows
namespace Mine
theorem cutL {prog : Program} {w : World} {A : Around} {E : Value → Shared → Prop} {h₀ : Heap} {L : Addr} {env : Env} {h : Heap} {g : Array GenState} {d : Drawn} {o : OsState} {k : Nat} {ab : List Stmt} {Q : Flow → Shared → Prop}
    {σ : Type} {m : Str → Option Value} {D : Addr} {b : Obj} {led : List (Addr × Obj)} (n : Nat) (F : Fr h₀ L h m) (_N : News h₀ L h ((D, b) :: led)) (lo : σ → Obj) (ms : σ → Str → Option Value) (P : σ → Prop)
    (h1 : ∀ R : Flow → Shared → Prop, (∀ c h' k', Fr h₀ L h' (ms c) → News h₀ L h' ((D, lo c) :: led) → P c → R .next ⟨h', g, d, k', o⟩) → (∀ f s', f ≠ .next → Q f s' → R f s') → wpAny (model prog w) A (execs (ab.take n) env) R E ⟨h, g, d, k, o⟩)
    (h2 : ∀ c h' k', Fr h₀ L h' (ms c) → News h₀ L h' ((D, lo c) :: led) → P c → wpAny (model prog w) A (execs (ab.drop n) env) Q E ⟨h', g, d, k', o⟩) : wpAny (model prog w) A (execs ab env) Q E ⟨h, g, d, k, o⟩ := cutN n F (fun c => (D, lo c) :: led) ms P h1 h2
end Mine
end
section
open PySem PySem.W PyProof.Rows
namespace Mine
theorem freshC11 : True := by
  k_with_none
  w_top off
  (try (have _h : ∀ (M : Model) (A : Around) (Q : Flow → _) (E : Value → _) (s : Shared) (e : Env), wpAny M A (execs [] e) Q E s := by (intros; walk1; fail "no")))
  k_with "omega" => (first | with_reducible assumption | exact rm1 (by with_reducible assumption) rfl | exact rm2 (by with_reducible assumption) rfl | exact rm3 (by with_reducible assumption) rfl | exact rm4 (by with_reducible assumption) rfl | exact rm0 (by with_reducible assumption) | with_reducible exact ⟨by with_reducible assumption, by with_reducible assumption⟩ | with_reducible exact Or.inl (by with_reducible assumption) | with_reducible exact Or.inr (by with_reducible assumption) | with_reducible exact i1 (by decide) | with_reducible exact i2 | with_reducible exact i3 | with_reducible exact i4 (by decide) | with_reducible exact j1 (by with_reducible assumption) (by decide) | with_reducible exact j2 (by with_reducible assumption) (by decide) | with_reducible exact i5 (by with_reducible assumption) (by decide) | with_reducible exact i6 (by with_reducible assumption) (by decide) | with_reducible exact i7 (by with_reducible assumption))
  trivial
theorem wordsC11_1 : True := by
  k_with "call type:type" => ((with_reducible show wpAny _ _ (call _ [Value.bytes _ _]) _ _ _); refine PySem.call_type_of (Tx := "bytes") rfl (by decide +kernel) ?_)
  k_with "spliced" => (k_here; (with_reducible show wpAny _ _ (spliced (backTo _ (starEach (_ :: _) _))) _ _ _); k_dflt (refine' args_pure (g := sg) (d := sd) (o := so) ?w8a ?w8F ?w8p ?_; (case w8a => exact rfl); (case w8F => k_asm); (case w8p => exact rfl); k_whole); (dsimp only [PVK, List.cons_append, List.nil_append]); intros)
  k_with "k_all" => (exact neLow (by assumption))
  k_with "call ref" => (k_here; k_dflt (refine' Con.use (c_truth _) ?k1 ?k2 ?k3 ?k4 ?k5 ?k6 ?k7 ?k8 ?_; (case k1 => k_asm); (case k2 => k_asm); (case k3 => k_asm); (case k4 => k_asm); (case k5 => k_asm); (case k6 => exact rfl); (case k7 => ktr_room); (case k8 => ktr_units); k_whole); intro _ _ _ _; (try k_sweep))
  k_with "call ref" => (k_here; k_dflt (refine' Con.use (c_ascii_buffer _ _) ?k1 ?k2 ?k3 ?k4 ?k5 ?k6 ?k7 ?k8 ?_; (case k1 => k_asm); (case k2 => k_asm); (case k3 => k_asm); (case k4 => k_asm); (case k5 => k_asm); (case k6 => exact rfl); (case k7 => ktr_room); (case k8 => ktr_units); k_whole); intro _ _ _ _; (try k_sweep))
  k_with "call ref" => (k_here; k_dflt (refine' Con.use (c_decode_data _ _) ?k1 ?k2 ?k3 ?k4 ?k5 ?k6 ?k7 ?k8 ?_; (case k1 => k_asm); (case k2 => k_asm); (case k3 => k_asm); (case k4 => k_asm); (case k5 => k_asm); (case k6 => exact rfl); (case k7 => ktr_room); (case k8 => ktr_units); k_whole); intro _ _ _ _; (try k_sweep))
  k_with "call ref" => (k_here; k_dflt (refine' Con.use (c_b64_value _ _ ?c1 ?c2) ?k1 ?k2 ?k3 ?k4 ?k5 ?k6 ?k7 ?k8 ?_; (case k1 => k_asm); (case k2 => k_asm); (case k3 => k_asm); (case k4 => k_asm); (case k5 => k_asm); (case k6 => exact rfl); (case k7 => ktr_room); (case k8 => ktr_units); (case c1 => omega); (case c2 => omega); k_whole); intro _ _ _ _ _; (try k_sweep))
  k_with "call ref" => (k_here; k_dflt (refine' Con.use (c_law_bytes _ _ ?c1 ?c2) ?k1 ?k2 ?k3 ?k4 ?k5 ?k6 ?k7 ?k8 ?_; (case k1 => k_asm); (case k2 => k_asm); (case k3 => k_asm); (case k4 => k_asm); (case k5 => k_asm); (case k6 => exact rfl); (case k7 => ktr_room); (case k8 => ktr_units); (case c1 => assumption); (case c2 => assumption); k_whole); intro _ _ _ _ _; (try k_sweep))
  k_with "storeName" => (k_here; k_dflt (first | (refine' storeJ (g := sg) (d := sd) (o := so) ?F ?N ?_ ?a ?b; (case F => k_asm); (case N => k_asm); (case a => rfl); (case b => rfl); k_whole; intro _ _ _ _ _ _) | (refine' storeV (g := sg) (d := sd) (o := so) ?F ?N ?_ ?a ?b; (case F => k_asm); (case N => k_asm); (case a => rfl); (case b => rfl); k_whole; intro _ _ _ _)); (try k_sweep))
  k_with "k_steps" => (repeat' ((fail_if_success (with_reducible show InvEndN _ _ _ _ _ _ _)); (fail_if_success (with_reducible show InvEndG _ _ _ _ _ _)); (first | (k_unfold; (try dsimp only)) | (k_end; kc_close) | walk1 | (dsimp only; walk1) | (leave1; walk_say "STEP leave1"; (try dsimp only)) | fail "no step")))
  k_with "k_stepsL" => (repeat' ((fail_if_success (with_reducible show wpAny _ _ (leaving _ _) _ _ _)); (fail_if_success (with_reducible show InvEndN _ _ _ _ _ _ _)); (fail_if_success (with_reducible show InvEndG _ _ _ _ _ _)); (first | (k_unfold; (try dsimp only)) | (k_end; kc_close) | walk1 | (dsimp only; walk1) | (leave1; walk_say "STEP leave1"; (try dsimp only)) | fail "no step")))
  k_with "ite" => (first | with_reducible refine ite_tt ?_ | with_reducible refine ite_ff ?_ | (with_reducible refine ieq_yes ?_ ?_; (focus omega)) | (with_reducible refine ieq_no ?_ ?_; (focus omega)) | (with_reducible refine ine_yes ?_ ?_; (focus omega)) | (with_reducible refine ine_no ?_ ?_; (focus omega)) | (with_reducible refine idec_yes ?_ ?_; (focus omega)) | (with_reducible refine idec_no ?_ ?_; (focus omega)))
  k_with "execs cons" => (k_here; (with_reducible show wpAny _ _ (execs (Stmt.If _ _ _ _ :: _) _) _ _ _); k_dflt (first | (refine' if_yes (g := sg) (d := sd) (o := so) ?w9F ?w9p ?w9P ?_ ?w9a ?w9b; (case w9F => k_asm); (case w9p => exact rfl); (case w9P => first | omega | (first | exact rfl | assumption | exact ⟨by first | omega | assumption, by first | exact rfl | assumption | omega⟩)); (case w9a => exact rfl); (case w9b => first | dsimp only [List.cons_append, List.nil_append] | exact rfl); k_whole; intro _) | (refine' if_no (g := sg) (d := sd) (o := so) ?w9F ?w9p ?w9P ?_ ?w9a ?w9b; (case w9F => k_asm); (case w9p => exact rfl); (case w9P => first | omega | (first | exact rfl | assumption | exact Or.inl (by first | omega | assumption | exact rfl) | exact Or.inr (by first | omega | assumption | exact rfl))); (case w9a => exact rfl); (case w9b => first | dsimp only [List.cons_append, List.nil_append] | exact rfl); k_whole; intro _)))
  k_with "execs cons" => (k_here; (with_reducible show wpAny _ _ (execs (Stmt.Assign [Expr.Name _ _] _ _ :: _) _) _ _ _); k_dflt (refine' as_int (g := sg) (d := sd) (o := so) ?w9F ?w9N ?w9p ?_ ?w9a ?w9b ?w9c; (case w9F => k_asm); (case w9N => k_asm); (case w9p => exact rfl); (case w9a => exact rfl); (case w9b => exact rfl); (case w9c => exact rfl); k_whole; intro _ _ _ _ _ _; (try k_sweep)))
  k_with "binaryOp Mod str int" => (k_here; (with_reducible show wpAny _ _ (binaryOp Operator.Mod (Value.str _ _) (Value.int _ _)) _ _ _); k_dflt (refine' KPc.mod_int ?kpcF ?kpcl ?kpch (fun i a b c d => fmtM _ _ i a b c d) ?_; (case kpcF => decide +kernel); (case kpcl => kpc_fact); (case kpch => kpc_fact); k_whole); intro _ _)
  trivial
section
variable {w : World} {base : Heap} {news : News0}
set_option maxRecDepth 100000
set_option maxHeartbeats 8000000
theorem keyL {h₀ : Heap} {L : Addr} {h : Heap} {m : Str → Option Value} {l : News0} {EK : Value → Shared → Prop} {g : Array GenState} {d : Drawn} {o : OsState} {P : Prop} (_F : Fr h₀ L h m) (_N : News h₀ L h l) (C : Prop)
    (key : ∀ h1 h2 e args m1 k1, C → h1.MadeExcOf h2 e (.ref 39) args → Fr h₀ L h1 m1 → News h₀ L h1 l → EK (.ref e) ⟨h2, g, d, k1, o⟩)
    (K : (∀ h1 h2 e args m1 k1, C → h1.MadeExcOf h2 e (.ref 39) args → Fr h₀ L h1 m1 → News h₀ L h1 l → EK (.ref e) ⟨h2, g, d, k1, o⟩) → P) : P := K key
theorem c_law_read (x : Str) (t : Tok) (st : Bool) (hx : ∀ c ∈ x.cps.toList, c < 128) (hl : x.cps.size ≤ 400) : ConS w 4 base news (call (.ref 365) [.str x t, .bool st])
    (fun G => ∀ t, G (readV (readF x st) t) news) := by
  refine ConS.mk2 ?_
  intro p loose mean mg mb dp un gd cn cns cg cc cm a ccd cl A₀ h₀ L m sh sg sd sk so Q E B F X N T XB TB hd hu hret
  refine wpAny_call ?_
  k_dflt (refine' code_defX0 ?k1 ?k2 ?k3 ?k4 ?k5 ?kA ?kf ?ke ?k6 ?k7 ?k8 ?k9 ?kB ?_ ?c2 ?c3 ?c4 ?c5; (case kA => exact rfl); (case kf => exact rfl); (case ke => exact rfl); (case k2 => k_asm); (case k1 => k_asm); (case k3 => k_asm); (case k4 => k_asm); (case k5 => k_asm); (case k6 => k_is); (case k7 => k_is); (case k8 => k_room); (case k9 => first | exact binds_K (by k_in) rfl (by k_is) rfl rfl rfl | exact BindsTo.of_eq rfl); (case kB => exact locs rfl); (case c2 => exact rfl); (case c3 => exact rfl); (case c4 => exact rfl); (case c5 => decide); k_whole; intro g' L' h' FG' F' N' B' X' T' D'; (try dsimp only); (try k_lift B'); (try k_fold))
  have hMk := kstMark
  k_steps
  rename Fr _ _ _ _ => lF'
  rename News _ _ _ _ => lN'
  k_dflt (with_unfolding_all refine' KStb.kst_bytes (σ := (List Value × Nat) × A2 × Tok × Tok × Tok × Tok) (fun c => (_, listOf c.1.1.toArray c.1.2) :: news) (fun c => [("quad_pos", .int c.2.1.qp c.2.2.1), ("leftchar", .int c.2.1.lc c.2.2.2.1), ("pads", .int c.2.1.p c.2.2.2.2.1), ("i", .int c.2.1.i c.2.2.2.2.2)]) (fun c => IntsAre c.1.1 c.2.1.ns) [] (fun pre c => decAcc st pre = some c.2.1 ∧ c.2.1.ok pre.length) (([], _), ⟨[], 0, 0, 0, 0⟩, _, _, _, _) rfl rfl (by rfl) lF' lN' .nil ?hk ⟨rfl, A2.ok0⟩ ?_ ?_)
  case hk =>
    intro p hp
    repeat' (rcases List.mem_cons.mp hp with rfl | hp; · rfl)
    cases hp
  · intro c8
    refine match c8 with | ⟨⟨vs9, n9⟩, ⟨ns9, qp9, lc9, p9, i9⟩, t8, t9, t10, t11⟩ => ?_
    intro pre post x9 t7 u9 h9 tk9 own9 e9 hpl hx0 hx1 hoff9 hI9 hP9 F9 N9
    clear lF' lN'
    refine opqG fun G8 hG8 => ?_
    obtain ⟨hD, ho⟩ := hP9
    obtain ⟨o1, o2, o3, o4, o5, o6, o7, o8, o9, o10, o11, o12⟩ := id ho
    refine hG8 ?_
    clear hG8 G8
    dsimp only at hD o1 o2 o3 o4 o5 o6 o7 o8 o9 o10 o11 o12 hI9 F9 N9
    simp only [List.cons_append] at N9
    have hbl : (KBw.bInts (bytF x)).length = x.cps.size := by simp [KBw.bInts, bytF]
    have hpb : pre.length < 400 := by exact dn30 0x3efbedc642c078002dc2076190b00 (by k_ne) hl hpl hbl
    have hvl := IntsAre.length hI9
    refine opqQ fun R hR => ?_
    refine let_A ?_
    intro A9
    refine fr_let F9 ?_
    clear F9
    intro mf9 F9
    refine keyL (EK := ek) (g := sg) (d := sd) (o := so) F9 N9 (readF x st = none) ?key ?_
    case key =>
      intro h1 h2 e args m1 k1 hn0 hE F1 N1
      clear F9 N9
      k_steps
      all_goals
        rename Fr h₀ L _ _ => F7
        rename News h₀ L _ _ => N7
        rw [hn0] at hret
        exact hret 0 _ _ F7 (cb_drop N7 fun p hp => by first | exact .tail _ hp | exact .tail _ (List.mem_append_left _ hp) | exact hp | exact .tail _ (.tail _ hp))
    intro key
    by_cases hx61 : x9 = 61
    · subst hx61
      by_cases hq2 : 2 ≤ qp9
      · by_cases hq4 : qp9 + (p9 + 1) ≤ 4
        · k_steps
          refine hR _ _ ?_
          k_steps
          rename Fr _ _ _ _ => F7
          rename News _ _ _ _ => N7
          try simp only [List.push_toArray] at N7
          refine' kst_end ((vs9, n9), ⟨ns9, _, lc9, p9 + 1, i9 + 1⟩, _, _, _, _) F7 N7 ?hn (ledB _ _ _) rfl ?hf (lkC rfl (lkC rfl (lkC rfl (lkC rfl lkN)))) (fun z hz h1 _ => ?hr) (dec_turn hD ho hx0 hx1 ?hd)
          case hn => exact ledA _ _ _
          case hf => exact hI9
          case hr =>
            have z1 : z ≠ Str.ofString "quad_pos" := h1 _ (.head _)
            have z2 : z ≠ Str.ofString "leftchar" := h1 _ (.tail _ (.head _))
            have z3 : z ≠ Str.ofString "pads" := h1 _ (.tail _ (.tail _ (.head _)))
            have z4 : z ≠ Str.ofString "i" := h1 _ (.tail _ (.tail _ (.tail _ (.head _))))
            repeat (first | (refine (kstB_ne (nmC z1 (nmC z2 (nmC z3 (nmC z4 nmN))))).trans ?_; exact rfl) | refine (if_neg z4).trans ?_ | refine (if_neg z3).trans ?_ | refine (if_neg z2).trans ?_ | refine (if_neg z1).trans ?_ | refine (if_neg hz).trans ?_)
          case hd =>
            show decStep _ _ _ = some _
            (unfold decStep; rw [if_pos rfl, if_pos (by first | exact .inl ⟨by assumption, by assumption⟩ | exact .inr rfl)])
        · cases st
          · k_steps
            refine hR _ _ ?_
            k_steps
            rename Fr _ _ _ _ => F7
            rename News _ _ _ _ => N7
            try simp only [List.push_toArray] at N7
            refine' kst_end ((vs9, n9), ⟨ns9, _, lc9, p9 + 1, i9 + 1⟩, _, _, _, _) F7 N7 ?hn (ledB _ _ _) rfl ?hf (lkC rfl (lkC rfl (lkC rfl (lkC rfl lkN)))) (fun z hz h1 _ => ?hr) (dec_turn hD ho hx0 hx1 ?hd)
            case hn => exact ledA _ _ _
            case hf => exact hI9
            case hr =>
              have z1 : z ≠ Str.ofString "quad_pos" := h1 _ (.head _)
              have z2 : z ≠ Str.ofString "leftchar" := h1 _ (.tail _ (.head _))
              have z3 : z ≠ Str.ofString "pads" := h1 _ (.tail _ (.tail _ (.head _)))
              have z4 : z ≠ Str.ofString "i" := h1 _ (.tail _ (.tail _ (.tail _ (.head _))))
              repeat (first | (refine (kstB_ne (nmC z1 (nmC z2 (nmC z3 (nmC z4 nmN))))).trans ?_; exact rfl) | refine (if_neg z4).trans ?_ | refine (if_neg z3).trans ?_ | refine (if_neg z2).trans ?_ | refine (if_neg z1).trans ?_ | refine (if_neg hz).trans ?_)
            case hd =>
              show decStep _ _ _ = some _
              (unfold decStep; rw [if_pos rfl, if_pos (by first | exact .inl ⟨by assumption, by assumption⟩ | exact .inr rfl)])
          · have hn1 : ¬ qp9 = 1 := by exact dn01 0xfbfecd03900e (by k_ne) hq2
            have hn0 : ¬ qp9 = 0 := by exact dn01 0xfbfecc03900e (by k_ne) hq2
            have hdn : decStep true ⟨ns9, qp9, lc9, p9, i9⟩ 61 = none := by unfold decStep; rw [if_pos rfl, if_neg (by simp; exact dn02 0xfbeeafbcd04043900eff942fbcd040 (by k_ne) hq4)]
            k_extra "k_stepsL"
            all_goals exact key _ _ _ _ _ _ (read_none e9 hD hdn) (by assumption) (by k_asm) (by k_asm)
      · cases st
        · k_steps
          refine hR _ _ ?_
          k_steps
          rename Fr _ _ _ _ => F7
          rename News _ _ _ _ => N7
          try simp only [List.push_toArray] at N7
          refine' kst_end ((vs9, n9), ⟨ns9, _, lc9, p9 + 1, i9 + 1⟩, _, _, _, _) F7 N7 ?hn (ledB _ _ _) rfl ?hf (lkC rfl (lkC rfl (lkC rfl (lkC rfl lkN)))) (fun z hz h1 _ => ?hr) (dec_turn hD ho hx0 hx1 ?hd)
          case hn => exact ledA _ _ _
          case hf => exact hI9
          case hr =>
            have z1 : z ≠ Str.ofString "quad_pos" := h1 _ (.head _)
            have z2 : z ≠ Str.ofString "leftchar" := h1 _ (.tail _ (.head _))
            have z3 : z ≠ Str.ofString "pads" := h1 _ (.tail _ (.tail _ (.head _)))
            have z4 : z ≠ Str.ofString "i" := h1 _ (.tail _ (.tail _ (.tail _ (.head _))))
            repeat (first | (refine (kstB_ne (nmC z1 (nmC z2 (nmC z3 (nmC z4 nmN))))).trans ?_; exact rfl) | refine (if_neg z4).trans ?_ | refine (if_neg z3).trans ?_ | refine (if_neg z2).trans ?_ | refine (if_neg z1).trans ?_ | refine (if_neg hz).trans ?_)
          case hd =>
            show decStep _ _ _ = some _
            (unfold decStep; rw [if_pos rfl, if_pos (by first | exact .inl ⟨by assumption, by assumption⟩ | exact .inr rfl)])
        · have hdn : decStep true ⟨ns9, qp9, lc9, p9, i9⟩ 61 = none := by unfold decStep; rw [if_pos rfl, if_neg (by simp; exact dn02 0xfbeeafbcd04043900eff900e (by k_ne) hq2)]
          by_cases hn1 : qp9 = 1
          · subst hn1
            k_steps
            all_goals try refine hR _ _ ?_
            all_goals k_steps
            all_goals
              rename Fr h₀ L _ _ => F7
              rename News h₀ L _ _ => N7
              have hq0 := read_none e9 hD hdn
              rw [hq0] at hret
              exact hret 0 _ _ F7 (cb_drop N7 fun p hp => by first | exact .tail _ hp | exact .tail _ (List.mem_append_left _ hp) | exact hp | exact .tail _ (.tail _ hp))
          · have hn0 : qp9 = 0 := by exact dn01 0x3efbeecc03fecd03fe403b900c (by k_ne) o1 hq2 hn1
            subst hn0
            by_cases hi0 : i9 = 0
            · k_extra "k_stepsL"
              all_goals exact key _ _ _ _ _ _ (read_none e9 hD hdn) (by assumption) (by k_asm) (by k_asm)
            · k_extra "k_stepsL"
              all_goals exact key _ _ _ _ _ _ (read_none e9 hD hdn) (by assumption) (by k_asm) (by k_asm)
    · have hv := b64v_rng hx0 hx1
      by_cases h64 : 64 ≤ b64v x9
      · cases st
        · k_steps
          refine hR _ _ ?_
          k_steps
          rename Fr _ _ _ _ => F7
          rename News _ _ _ _ => N7
          try simp only [List.push_toArray] at N7
          refine' kst_end ((vs9, n9), ⟨ns9, _, lc9, p9, i9 + 1⟩, _, _, _, _) F7 N7 ?hn (ledB _ _ _) rfl ?hf (lkC rfl (lkC rfl (lkC rfl (lkC rfl lkN)))) (fun z hz h1 _ => ?hr) (dec_turn hD ho hx0 hx1 ?hd)
          case hn => exact ledA _ _ _
          case hf => exact hI9
          case hr =>
            have z1 : z ≠ Str.ofString "quad_pos" := h1 _ (.head _)
            have z2 : z ≠ Str.ofString "leftchar" := h1 _ (.tail _ (.head _))
            have z3 : z ≠ Str.ofString "pads" := h1 _ (.tail _ (.tail _ (.head _)))
            have z4 : z ≠ Str.ofString "i" := h1 _ (.tail _ (.tail _ (.tail _ (.head _))))
            repeat (first | (refine (kstB_ne (nmC z1 (nmC z2 (nmC z3 (nmC z4 nmN))))).trans ?_; exact rfl) | refine (if_neg z4).trans ?_ | refine (if_neg z3).trans ?_ | refine (if_neg z2).trans ?_ | refine (if_neg z1).trans ?_ | refine (if_neg hz).trans ?_)
          case hd =>
            show decStep _ _ _ = some _
            (unfold decStep; rw [if_neg hx61, if_pos h64]; rfl)
        · have hdn : decStep true ⟨ns9, qp9, lc9, p9, i9⟩ x9 = none := by unfold decStep; rw [if_neg hx61, if_pos h64]; rfl
          k_extra "k_stepsL"
          all_goals exact key _ _ _ _ _ _ (read_none e9 hD hdn) (by assumption) (by k_asm) (by k_asm)
      · have hq : qp9 = 0 ∨ qp9 = 1 ∨ qp9 = 2 ∨ qp9 = 3 := by exact dn01 0x3efbdf7decf03b380ecd03b300e4f03900c (by k_ne) o1 o2
        have hand15 := and_rng (b64v x9) (m := 15) (by decide)
        have hand3 := and_rng (b64v x9) (m := 3) (by decide)
        by_cases hbad : ¬ p9 = 0 ∧ st = true
        · obtain ⟨hps, rfl⟩ := hbad
          have hdn : decStep true ⟨ns9, qp9, lc9, p9, i9⟩ x9 = none := by unfold decStep; rw [if_neg hx61, if_neg h64, if_pos ⟨hps, rfl⟩]
          by_cases hq4 : qp9 + p9 = 4
          · k_extra "k_stepsL"
            all_goals exact key _ _ _ _ _ _ (read_none e9 hD hdn) (by assumption) (by k_asm) (by k_asm)
          · k_extra "k_stepsL"
            all_goals exact key _ _ _ _ _ _ (read_none e9 hD hdn) (by assumption) (by k_asm) (by k_asm)
        · clear key
          refine cutM 4 F9 N9 (fun (c : Tok) y => if y = Str.ofString "this_ch" then some (.int (b64v x9) c) else mf9 y) (fun _ => True) ?s1 ?s2
          case s1 =>
            dsimp only [List.take, List.drop]
            intro R2 hR2 _
            by_cases hps : p9 = 0
            · subst hps
              k_steps
              rename Fr _ _ _ _ => F7
              rename News _ _ _ _ => N7
              exact hR2 _ _ _ F7 N7 trivial
            · cases st
              · k_steps
                rename Fr _ _ _ _ => F7
                rename News _ _ _ _ => N7
                exact hR2 _ _ _ F7 N7 trivial
              · exact absurd ⟨hps, rfl⟩ hbad
          case s2 =>
            clear F9 N9
            dsimp only [List.take, List.drop]
            intro c2 h2 k2 F9 N9 _
            refine fr_let F9 ?_
            clear F9
            intro mf2 F9
            refine cutL 2 F9 N9 (fun c : (List Value × Nat) × A2 × Tok × Tok × Tok => listOf c.1.1.toArray c.1.2) (fun c y => if y = Str.ofString "leftchar" then some (.int c.2.1.lc c.2.2.1) else if y = Str.ofString "quad_pos" then some (.int c.2.1.qp c.2.2.2.1) else if y = Str.ofString "pads" then some (.int c.2.1.p c.2.2.2.2) else mf2 y) (fun c => IntsAre c.1.1 c.2.1.ns ∧ decStep st ⟨ns9, qp9, lc9, p9, i9⟩ x9 = some c.2.1 ∧ c.2.1.i = i9 + 1) ?s3 ?s4
            case s3 =>
              dsimp only [List.take, List.drop]
              intro R2 hR2 _
              rcases hq with rfl | rfl | rfl | rfl
              · k_steps
                rename Fr _ _ _ _ => F7
                rename News _ _ _ _ => N7
                refine hR2 ((vs9, n9), ⟨ns9, 1, b64v x9, 0, i9 + 1⟩, _, _, _) _ _ F7 N7 ⟨hI9, ?_, rfl⟩
                unfold decStep; rw [if_neg hx61, if_neg h64, if_neg hbad, if_pos rfl]
              · have hvr := hv1 o3 o4 hv h64
                k_steps
                rename Fr _ _ _ _ => F7
                rename News _ _ _ _ => N7
                try simp only [List.push_toArray] at N7
                refine hR2 ((vs9 ++ [.int _ _], n9 + 1), ⟨ns9 ++ [Builtin.bitOr (lc9 * 2 ^ Int.toNat 2) ((b64v x9).fdiv (2 ^ Int.toNat 4))], 2, Builtin.bitAnd (b64v x9) 15, 0, i9 + 1⟩, _, _, _) _ _ F7 N7 ⟨IntsAre.append hI9 (.cons _ _ .nil), ?_, rfl⟩
                unfold decStep; rw [if_neg hx61, if_neg h64, if_neg hbad, if_neg (by dsimp only; decide), if_pos rfl]
              · have hvr := hv2 o3 (o5 rfl) hv h64
                k_steps
                rename Fr _ _ _ _ => F7
                rename News _ _ _ _ => N7
                try simp only [List.push_toArray] at N7
                refine hR2 ((vs9 ++ [.int _ _], n9 + 1), ⟨ns9 ++ [Builtin.bitOr (lc9 * 2 ^ Int.toNat 4) ((b64v x9).fdiv (2 ^ Int.toNat 2))], 3, Builtin.bitAnd (b64v x9) 3, 0, i9 + 1⟩, _, _, _) _ _ F7 N7 ⟨IntsAre.append hI9 (.cons _ _ .nil), ?_, rfl⟩
                unfold decStep; rw [if_neg hx61, if_neg h64, if_neg hbad, if_neg (by dsimp only; decide), if_neg (by dsimp only; decide), if_pos rfl]
              · have hvr := hv3 o3 (o6 rfl) hv h64
                k_steps
                rename Fr _ _ _ _ => F7
                rename News _ _ _ _ => N7
                try simp only [List.push_toArray] at N7
                refine hR2 ((vs9 ++ [.int _ _], n9 + 1), ⟨ns9 ++ [Builtin.bitOr (lc9 * 2 ^ Int.toNat 6) (b64v x9)], 0, 0, 0, i9 + 1⟩, _, _, _) _ _ F7 N7 ⟨IntsAre.append hI9 (.cons _ _ .nil), ?_, rfl⟩
                unfold decStep; rw [if_neg hx61, if_neg h64, if_neg hbad, if_neg (by dsimp only; decide), if_neg (by dsimp only; decide), if_neg (by dsimp only; decide)]
            case s4 =>
              clear F9 N9
              dsimp only [List.take, List.drop]
              intro c3
              refine match c3 with | ⟨⟨vs3, n3⟩, ⟨ns3, qp3, lc3, p3, i3⟩, ta3, tb3, tc3⟩ => ?_
              intro h3 k3 F9 N9 hP3
              dsimp only at hP3 F9 N9
              obtain ⟨hI3, hd3, rfl⟩ := hP3
              refine fr_let F9 ?_
              clear F9
              intro mf3 F9
              k_steps
              refine hR _ _ ?_
              k_steps
              rename Fr _ _ _ _ => F7
              rename News _ _ _ _ => N7
              refine' kst_end ((vs3, n3), ⟨ns3, qp3, lc3, p3, i9 + 1⟩, _, _, _, _) F7 N7 ?hn (ledB _ _ _) rfl ?hf (lkC rfl (lkC rfl (lkC rfl (lkC rfl lkN)))) (fun z hz h1 _ => ?hr) (dec_turn hD ho hx0 hx1 hd3)
              case hn => exact ledA _ _ _
              case hf => exact hI3
              case hr =>
                have z1 : z ≠ Str.ofString "quad_pos" := h1 _ (.head _)
                have z2 : z ≠ Str.ofString "leftchar" := h1 _ (.tail _ (.head _))
                have z3 : z ≠ Str.ofString "pads" := h1 _ (.tail _ (.tail _ (.head _)))
                have z4 : z ≠ Str.ofString "i" := h1 _ (.tail _ (.tail _ (.tail _ (.head _))))
                repeat (first | (refine (kstB_ne (nmC z1 (nmC z2 (nmC z3 (nmC z4 nmN))))).trans ?_; exact rfl) | refine (if_neg z4).trans ?_ | refine (if_neg z3).trans ?_ | refine (if_neg z2).trans ?_ | refine (if_neg z1).trans ?_ | refine (if_neg hz).trans ?_)
  · intro c8
    refine match c8 with | ⟨⟨vs9, n9⟩, ⟨ns9, qp9, lc9, p9, i9⟩, t8, t9, t10, t11⟩ => ?_
    intro u9 h9 tk9 hlen hI9 hP9 F9 N9
    clear lF' lN'
    refine opqG fun G8 hG8 => ?_
    obtain ⟨hD, ho⟩ := hP9
    obtain ⟨o1, o2, o3, o4, o5, o6, o7, o8, o9, o10, o11, o12⟩ := id ho
    refine hG8 ?_
    clear hG8 G8
    dsimp only at hD o1 o2 o3 o4 o5 o6 o7 o8 o9 o10 o11 o12 hI9 F9 N9
    have hbl : (KBw.bInts (bytF x)).length = x.cps.size := by simp [KBw.bInts, bytF]
    have hvl := IntsAre.length hI9
    have hre := read_end hD
    by_cases hq1 : qp9 = 1
    · subst hq1
      have hrn : readF x st = none := hre
      k_steps
      all_goals try refine hR _ _ ?_
      all_goals k_steps
      all_goals
        rename Fr h₀ L _ _ => F7
        rename News h₀ L _ _ => N7
        have hq0 := hrn
        rw [hq0] at hret
        exact hret 0 _ _ F7 (cb_drop N7 fun p hp => by first | exact .tail _ hp | exact .tail _ (List.mem_append_left _ hp) | exact hp | exact .tail _ (.tail _ hp))
    · by_cases hq0 : qp9 = 0
      · subst hq0
        have hrn : readF x st = some (byteArr ns9) := hre
        k_steps
        all_goals try refine hR _ _ ?_
        all_goals k_steps
        all_goals
          rename Fr h₀ L _ _ => F7
          rename News h₀ L _ _ => N7
          rw [hrn] at hret
          exact hret _ _ _ F7 (cb_drop N7 fun p hp => by first | exact .tail _ hp | exact .tail _ (List.mem_append_left _ hp) | exact hp | exact .tail _ (.tail _ hp))
      · by_cases hq4 : qp9 + p9 < 4
        · have hrn : readF x st = none := hre.trans (by unfold decEnd; rw [if_neg hq1, if_pos ⟨hq0, hq4⟩])
          k_steps
          all_goals try refine hR _ _ ?_
          all_goals k_steps
          all_goals
            rename Fr h₀ L _ _ => F7
            rename News h₀ L _ _ => N7
            have hq0 := hrn
            rw [hq0] at hret
            exact hret 0 _ _ F7 (cb_drop N7 fun p hp => by first | exact .tail _ hp | exact .tail _ (List.mem_append_left _ hp) | exact hp | exact .tail _ (.tail _ hp))
        · have hrn : readF x st = some (byteArr ns9) := hre.trans (by unfold decEnd; rw [if_neg hq1, if_neg (fun h => hq4 h.2)])
          k_steps
          all_goals try refine hR _ _ ?_
          all_goals k_steps
          all_goals
            rename Fr h₀ L _ _ => F7
            rename News h₀ L _ _ => N7
            rw [hrn] at hret
            exact hret _ _ _ F7 (cb_drop N7 fun p hp => by first | exact .tail _ hp | exact .tail _ (List.mem_append_left _ hp) | exact hp | exact .tail _ (.tail _ hp))
end
end Mine
end
section
open PySem PySem.W PyProof.Rows PySem.Spec PySem.Calls
namespace Mine
section
variable {prog : Program} {w : World} {A : Around} {E : Value → Shared → Prop} {s : Shared} {env : Env} {h₀ : Heap} {target : PySem.Expr} {body : List Stmt} {Q : Flow → Shared → Prop}
theorem endJ {L : Addr} {its : List (Addr × Obj)} {Jn : (Str → Option Value) → List (Addr × Obj) → Prop} {s₁ : Shared} {h' : Heap} {tk : Nat} {m' : Str → Option Value} {all : List (Addr × Obj)} (F : Fr h₀ L h' m') (N : News h₀ L h' all) (nx : List (Addr × Obj))
    (hI : ∀ p ∈ its, p ∈ all) (sub : ∀ p ∈ nx, p ∈ all) (off : ∀ p ∈ nx, ∀ q ∈ its, p.1 ≠ q.1) (hj : Jn m' nx) : UnrEndW h₀ L s₁ its Jn { s₁ with heap := h', toks := tk } :=
  ⟨h', tk, m', nx, rfl, F, fun p hp => by
    rcases List.mem_append.mp hp with hp | hp
    · exact N p (hI p hp)
    · exact N p (sub p hp), off, hj⟩
theorem postJ_mono {L : Addr} {its : List (Addr × Obj)} {J J' : (Str → Option Value) → List (Addr × Obj) → Prop} {s₁ : Shared} {f : Flow} {s₂ : Shared}
    (hj : ∀ m nx, (∀ p ∈ nx, ∀ q ∈ its, p.1 ≠ q.1) → J m nx → J' m nx) (h : UnrPostW h₀ L s₁ its J Q f s₂) : UnrPostW h₀ L s₁ its J' Q f s₂ := by
  cases f with
  | ret v => exact h
  | brk => exact h
  | next => obtain ⟨h', tk, m', nx, e, F, N, off, j⟩ := h; exact ⟨h', tk, m', nx, e, F, N, off, hj _ _ off j⟩
  | cont => obtain ⟨h', tk, m', nx, e, F, N, off, j⟩ := h; exact ⟨h', tk, m', nx, e, F, N, off, hj _ _ off j⟩
theorem rest_J {ws : List (Addr × String)} {keep : List (Addr × Obj)} {xs : List Itm} (J : Nat → (Str → Option Value) → List (Addr × Obj) → Prop)
    (turn : ∀ i a v h tk m nx, xs[i]? = some a → a.Is v h → J i m nx → SubL keep nx → Fr h₀ env.locals h m → AllObj ws (fun its => News h₀ env.locals h (its ++ nx) →
      wpAny (model prog w) A (assign target env v) (fun _ s₂ => wpAny (model prog w) A (execs body env) (UnrPostW h₀ env.locals { s with heap := h, toks := tk } its (fun m' n' => SubL keep n' ∧ J (i + 1) m' n') Q) E s₂) E { s with heap := h, toks := tk }))
    (done : ∀ m nx h tk, J xs.length m nx → Fr h₀ env.locals h m → News h₀ env.locals h nx → Q .next { s with heap := h, toks := tk }) :
    ∀ k i m nx, k + i = xs.length → J i m nx → SubL keep nx → ItemsRest prog w A E h₀ env target body Q s ws keep (xs.drop i) m nx := by
  intro k
  induction k with
  | zero =>
    intro i m nx hi hj _
    have : xs.drop i = [] := List.drop_eq_nil_of_le (by exact dn20 0x3ed8007806f00c (by k_ne) hi)
    rw [this]
    have e : i = xs.length := by exact dn20 0x3ee0103806f00c (by k_ne) hi
    exact fun h tk F N => done m nx h tk (e ▸ hj) F N
  | succ k ih =>
    intro i m nx hi hj hk
    have hlt : i < xs.length := by exact dn30 0x3edc20780af06f340 (by k_ne) hi
    rw [List.drop_eq_getElem_cons hlt]
    intro v h tk ha F
    have T := turn i _ v h tk m nx (List.getElem?_eq_getElem hlt) ha hj hk F
    have mono : ∀ (ws : List (Addr × String)) (P P' : List (Addr × Obj) → Prop), (∀ its, P its → P' its) → AllObj ws P → AllObj ws P' := by
      intro ws
      induction ws with
      | nil => intro P P' h x; exact h _ x
      | cons w r ihw => intro P P' h x o ho; exact ihw _ _ (fun its => h _) (x o ho)
    refine mono _ _ _ (fun its hits N => ?_) T
    refine wpAny_mono (hits N) (fun _ s₂ h₂ => wpAny_mono h₂ (fun f s₃ p => ?_) fun _ _ e => e) fun _ _ e => e
    exact postJ_mono (fun m' n' _ hh => ⟨hh.1, ih (i + 1) m' n' (by exact dn30 0x3ee02bef3410380af06f340 (by k_ne) hi) hh.2 hh.1⟩) p
theorem iter_listJ {ax : Addr} {lo : Obj} {vs : List Value} {n : Nat} {m₀ : Str → Option Value} {news : List (Addr × Obj)} (J : Addr → Nat → (Str → Option Value) → List (Addr × Obj) → Prop)
    (hh : A.handled = none) (F : Fr h₀ env.locals s.heap m₀) (N : News h₀ env.locals s.heap news) (hm : (ax, lo) ∈ news) (hc : lo.cls = .type "list") (hd : lo.data = .seq vs.toArray n)
    (hj : ∀ I : Addr, (∀ p ∈ news, p.1 < I) → J I 0 m₀ news)
    (turn : ∀ I o i v h tk m nx, vs[i]? = some v → J I i m nx → (ax, lo) ∈ nx → (∀ p ∈ nx, p.1 ≠ I) → Fr h₀ env.locals h m → News h₀ env.locals h ((I, o) :: nx) →
      wpAny (model prog w) A (assign target env v) (fun _ s₂ => wpAny (model prog w) A (execs body env) (UnrPostW h₀ env.locals { s with heap := h, toks := tk } [(I, o)] (fun m' n' => (ax, lo) ∈ n' ∧ J I (i + 1) m' n') Q) E s₂) E { s with heap := h, toks := tk })
    (done : ∀ I m nx h tk, J I vs.length m nx → Fr h₀ env.locals h m → News h₀ env.locals h nx → Q .next { s with heap := h, toks := tk }) :
    wpAny (model prog w) A (pyIter (.ref ax)) (fun it s₂ => TurnsAt prog w A h₀ env target body Q E it s₂) E s := by
  refine iter_listTurns hh F N hm hc hd fun I hI => ?_
  have R := rest_J (prog := prog) (w := w) (A := A) (E := E) (s := s) (env := env) (h₀ := h₀) (target := target) (body := body) (Q := Q) (ws := [(I, "list_iterator")]) (keep := [(ax, lo)]) (xs := vs.map .val) (fun i m nx => J I i m nx ∧ ∀ p ∈ nx, p.1 ≠ I) ?_ ?_
    vs.length 0 m₀ news (by simp) ⟨hj I hI, fun p hp => Nat.ne_of_lt (hI p hp)⟩ (And.intro hm trivial)
  · simpa using R
  · intro i a v h tk m nx ha hv hJ hk F₁
    intro o hoc
    intro N₁
    obtain ⟨u, hu, rfl⟩ : ∃ u, vs[i]? = some u ∧ a = .val u := by
      rw [List.getElem?_map] at ha
      obtain ⟨u, h1, h2⟩ := Option.map_eq_some_iff.mp ha
      exact ⟨u, h1, h2.symm⟩
    have e : v = u := hv
    subst e
    refine wpAny_mono (turn I o i v h tk m nx hu hJ.1 (hk.mem _ (.head _)) hJ.2 F₁ N₁) (fun _ s₂ h₂ => wpAny_mono h₂ (fun f s₃ p => ?_) fun _ _ e => e) fun _ _ e => e
    exact postJ_mono (fun m' n' off hh => ⟨And.intro hh.1 trivial, hh.2, fun p hp => off p hp _ (.head _)⟩) p
  · intro m nx h tk hJ F₁ N₁
    rw [List.length_map] at hJ
    exact done I m nx h tk hJ.1 F₁ N₁
noncomputable def KjS {σ : Type} (Led : σ → List (Addr × Obj)) (ps : σ → List (Str × Value)) (stored : List Str) (m₀ : Str → Option Value) (P : Nat → σ → Prop) (i : Nat) (m : Str → Option Value) (nx : List (Addr × Obj)) : Prop :=
  ∃ c : σ, nx = Led c ∧ (∀ p ∈ ps c, m p.1 = some p.2) ∧ (∀ z, (∀ p ∈ ps c, z ≠ p.1) → stored.contains z = false → m z = m₀ z) ∧ P i c
theorem kj_map {ps : List (Str × Value)} {stored : List Str} {m₀ m₁ : Str → Option Value} (h1 : ∀ p ∈ ps, m₁ p.1 = some p.2) (h2 : ∀ z, (∀ p ∈ ps, z ≠ p.1) → stored.contains z = false → m₁ z = m₀ z) :
    (fun z => kstB (fun z => if stored.contains z then m₁ z else m₀ z) ps z) = m₁ := by
  funext y
  refine kstB_eq h1 fun hn => ?_
  show (if stored.contains y = true then m₁ y else m₀ y) = m₁ y
  cases h3 : stored.contains y with
  | true => simp
  | false => simp only [Bool.false_eq_true, if_false]; exact (h2 y hn h3).symm
theorem kj_end {σ : Type} {Led : σ → List (Addr × Obj)} {ps : σ → List (Str × Value)} {stored : List Str} {m₀ : Str → Option Value} {P : Nat → σ → Prop} {i : Nat} {I : Addr} {o : Obj} (c : σ) {L : Addr} {m' : Str → Option Value} {all : List (Addr × Obj)} {s₁ : Shared} {h' : Heap} {tk : Nat}
    (F : Fr h₀ L h' m') (N : News h₀ L h' all) (hI : (I, o) ∈ all) (hn : ∀ p ∈ Led c, p ∈ all) (off : ∀ p ∈ Led c, p.1 ≠ I) (hk : ∀ p ∈ ps c, m' p.1 = some p.2) (hr : ∀ z, (∀ p ∈ ps c, z ≠ p.1) → stored.contains z = false → m' z = m₀ z) (hp : P i c) :
    UnrEndW h₀ L s₁ [(I, o)] (KjS Led ps stored m₀ P i) { s₁ with heap := h', toks := tk } :=
  endJ F N (Led c) (fun p hp => by rw [List.mem_singleton.mp hp]; exact hI) hn (fun p hp q hq => by rw [List.mem_singleton.mp hq]; exact off p hp) ⟨c, rfl, hk, hr, hp⟩
theorem kj_range {σ : Type} {x : Str} {r : Addr} {a₀ b₀ : Int} {t₀ u₀ v₀ : Tok} {n : Nat} {m₀ : Str → Option Value} (Led : σ → List (Addr × Obj)) (ps : σ → List (Str × Value)) (stored : List Str) (P : Nat → σ → Prop) (c₀ : σ)
    (hh : A.handled = none) (hr : IsRange s.heap r a₀ b₀ 1 t₀ u₀ v₀) (hsmall : Builtin.Range.small a₀ b₀ 1 = true) (hn : Builtin.Range.rangeSize a₀ b₀ 1 = (n : Int)) (_hx : stored.contains x = true) (F : Fr h₀ env.locals s.heap m₀) (N : News h₀ env.locals s.heap (Led c₀)) (hk : ∀ p ∈ ps c₀, m₀ p.1 = some p.2) (hp : P 0 c₀)
    (_hxp : ∀ c, ∀ p ∈ ps c, p.1 ≠ x)
    (turn : ∀ (I : Addr) (o : Obj) (c : σ) (i : Nat) (k : Int) (t : Tok) (u : Str → Option Value) h tk, k = a₀ + (i : Int) → i < n → (∀ p ∈ Led c, p.1 ≠ I) → P i c →
      Fr h₀ env.locals h (fun y => if y = x then some (.int k t) else kstB (fun z => if stored.contains z then u z else m₀ z) (ps c) y) → News h₀ env.locals h ((I, o) :: Led c) →
      wpAny (model prog w) A (execs body env) (UnrPostW h₀ env.locals { s with heap := h, toks := tk } [(I, o)] (KjS Led ps stored m₀ P (i + 1)) Q) E { s with heap := h, toks := tk })
    (done : ∀ (c : σ) (u : Str → Option Value) h tk, P n c → Fr h₀ env.locals h (fun y => kstB (fun z => if stored.contains z then u z else m₀ z) (ps c) y) → News h₀ env.locals h (Led c) → Q .next { s with heap := h, toks := tk }) :
    wpAny (model prog w) A (pyIter (.ref r)) (fun it s₂ => LoopAtV prog w A h₀ env x body Q E it s₂) E s := by
  refine iter_rangeUnr hh hr hsmall hn F N fun I hI => ?_
  have key : ∀ k i m nx, k + i = n → KjS Led ps stored m₀ P i m nx → (∀ p ∈ nx, p.1 ≠ I) → RangeRest prog w A E h₀ env x body Q s I a₀ n k i m nx := by
    intro k
    induction k with
    | zero =>
      rintro i m nx hi ⟨c, rfl, h1, h2, hp'⟩ _
      refine RangeRest.zero fun h tk F N => ?_
      have e : i = n := by exact dn20 0x3ee0103806f00c (by k_ne) hi
      subst e
      rw [← kj_map h1 h2] at F
      exact done c m h tk hp' F N
    | succ k ih =>
      rintro i m nx hi ⟨c, rfl, h1, h2, hp'⟩ hoff
      refine RangeRest.succ fun t h tk F N => ?_
      rw [← kj_map h1 h2] at F
      refine wpAny_mono (turn I _ c i _ t m h tk rfl (by exact dn30 0x3edc20780af06f340 (by k_ne) hi) hoff hp' F N) (fun f s₂ hq => ?_) fun _ _ e => e
      have fin : UnrEndW h₀ env.locals { s with heap := h, toks := tk } [(I, itR (a₀ + ((i + 1 : Nat) : Int)) ((n : Int) - ((i + 1 : Nat) : Int)))] (KjS Led ps stored m₀ P (i + 1)) s₂ →
          UnrEnd h₀ env.locals { s with heap := h, toks := tk } I (itR (a₀ + ((i + 1 : Nat) : Int)) ((n : Int) - ((i + 1 : Nat) : Int))) (RangeRest prog w A E h₀ env x body Q s I a₀ n k (i + 1)) s₂ := by
        rintro ⟨h', tk', m', nx', e, F', N', off, hj⟩
        exact ⟨h', tk', m', nx', e, F', N', fun p hp => off p hp _ (.head _), ih (i + 1) m' nx' (by exact dn30 0x3ee02bef3410380af06f340 (by k_ne) hi) hj fun p hp => off p hp _ (.head _)⟩
      cases f with
      | ret v => exact hq
      | brk => exact hq
      | next => exact fin hq
      | cont => exact fin hq
  exact key n 0 m₀ (Led c₀) (by (first | lia | omega)) ⟨c₀, rfl, hk, fun _ _ _ => rfl, hp⟩ fun p hp => Nat.ne_of_lt (hI p hp)
theorem kj_list {σ : Type} {ax : Addr} {lo : Obj} {vs : List Value} {n : Nat} {m₀ : Str → Option Value} (Led : σ → List (Addr × Obj)) (ps : σ → List (Str × Value)) (stored : List Str) (P : Nat → σ → Prop) (c₀ : σ)
    (hh : A.handled = none) (hm : ∀ c, (ax, lo) ∈ Led c) (hc : lo.cls = .type "list") (hd : lo.data = .seq vs.toArray n) (F : Fr h₀ env.locals s.heap m₀) (N : News h₀ env.locals s.heap (Led c₀)) (hk : ∀ p ∈ ps c₀, m₀ p.1 = some p.2) (hp : P 0 c₀)
    (turn : ∀ I o (c : σ) i v (u : Str → Option Value) h tk, vs[i]? = some v → (∀ p ∈ Led c, p.1 ≠ I) → P i c →
      Fr h₀ env.locals h (fun y => kstB (fun z => if stored.contains z then u z else m₀ z) (ps c) y) → News h₀ env.locals h ((I, o) :: Led c) →
      wpAny (model prog w) A (assign target env v) (fun _ s₂ => wpAny (model prog w) A (execs body env) (UnrPostW h₀ env.locals { s with heap := h, toks := tk } [(I, o)] (KjS Led ps stored m₀ P (i + 1)) Q) E s₂) E { s with heap := h, toks := tk })
    (done : ∀ (c : σ) (u : Str → Option Value) h tk, P vs.length c → Fr h₀ env.locals h (fun y => kstB (fun z => if stored.contains z then u z else m₀ z) (ps c) y) → News h₀ env.locals h (Led c) → Q .next { s with heap := h, toks := tk }) :
    wpAny (model prog w) A (pyIter (.ref ax)) (fun it s₂ => TurnsAt prog w A h₀ env target body Q E it s₂) E s := by
  refine iter_listJ (fun _ i m nx => KjS Led ps stored m₀ P i m nx) hh F N (hm c₀) hc hd (fun I _ => ⟨c₀, rfl, hk, fun _ _ _ => rfl, hp⟩) ?_ ?_
  · rintro I o i v h tk m nx hv ⟨c, rfl, h1, h2, hp'⟩ _ hoff F₁ N₁
    rw [← kj_map h1 h2] at F₁
    refine wpAny_mono (turn I o c i v m h tk hv hoff hp' F₁ N₁) (fun _ s₂ h₂ => wpAny_mono h₂ (fun f s₃ p => ?_) fun _ _ e => e) fun _ _ e => e
    exact postJ_mono (fun m' n' _ hj => ⟨by obtain ⟨c', rfl, _⟩ := hj; exact hm c', hj⟩) p
  · rintro I m nx h tk ⟨c, rfl, h1, h2, hp'⟩ F₁ N₁
    rw [← kj_map h1 h2] at F₁
    exact done c m h tk hp' F₁ N₁
theorem kj_enumS {σ : Type} {elts : List PySem.Expr} {kk : Nat} {pos : Pos} {z : Str} {tz : Tok} {m₀ : Str → Option Value} (Led : σ → List (Addr × Obj)) (ps : σ → List (Str × Value)) (stored : List Str) (P : Nat → σ → Prop) (c₀ : σ)
    (hh : A.handled = none) (hz : z.cps.all (· < 128) = true) (F : Fr h₀ env.locals s.heap m₀) (N : News h₀ env.locals s.heap (Led c₀)) (hk : ∀ p ∈ ps c₀, m₀ p.1 = some p.2) (hp : P 0 c₀)
    (turn : ∀ I o₁ o₂ (c : σ) i T ti x tx (u : Str → Option Value) h tk, z.cps[i]? = some x → (∀ p ∈ Led c, p.1 ≠ I ∧ p.1 ≠ I + 1) → P i c → IsTup h T #[.int (i : Int) ti, .str ⟨#[x]⟩ tx] →
      Fr h₀ env.locals h (fun y => kstB (fun z => if stored.contains z then u z else m₀ z) (ps c) y) → News h₀ env.locals h ((I + 1, o₁) :: (I, o₂) :: Led c) →
      wpAny (model prog w) A (assign (.Tuple elts kk pos) env (.ref T)) (fun _ s₂ => wpAny (model prog w) A (execs body env) (UnrPostW h₀ env.locals { s with heap := h, toks := tk } [(I + 1, o₁), (I, o₂)] (KjS Led ps stored m₀ P (i + 1)) Q) E s₂) E { s with heap := h, toks := tk })
    (done : ∀ (c : σ) (u : Str → Option Value) h tk, P z.cps.size c → Fr h₀ env.locals h (fun y => kstB (fun z => if stored.contains z then u z else m₀ z) (ps c) y) → News h₀ env.locals h (Led c) → Q .next { s with heap := h, toks := tk }) :
    wpAny (model prog w) A (call (.type "enumerate") [.str z tz]) (fun xv s₁ => wpAny (model prog w) A (pyIter xv) (fun it s₂ => TurnsAt prog w A h₀ env (.Tuple elts kk pos) body Q E it s₂) E s₁) E s := by
  have hLs : env.locals < s.heap.objs.size := F.ns.lt
  refine call_enumerate_str fun h' hE hI hsz hkeep => ?_
  have hI' : h'.IsStrIter s.heap.objs.size "str_ascii_iterator" z tz 0 := by simpa [strIterType, hz] using hI
  refine wpAny_pyIter_enum hE ?_
  let xs : List Itm := (List.range z.cps.size).map fun (i : Nat) => Itm.pairF (fun t => .int (i : Int) t) (.str ⟨#[(z.cps[i]?).getD 0]⟩)
  have hx : ∀ (i c : Nat), z.cps[i]? = some c → xs[i]? = some (Itm.pairF (fun t => .int (i : Int) t) (.str ⟨#[c]⟩)) := by
    intro i c hc
    have hi : i < z.cps.size := (Array.getElem?_eq_some_iff.mp hc).1
    show ((List.range z.cps.size).map _)[i]? = _
    rw [List.getElem?_map, List.getElem?_range hi]
    simp [hc]
  have rest := rest_J (prog := prog) (w := w) (A := A) (E := E) (s := s) (env := env) (h₀ := h₀) (target := .Tuple elts kk pos) (body := body) (Q := Q) (ws := [(s.heap.objs.size + 1, "enumerate"), (s.heap.objs.size, "str_ascii_iterator")]) (keep := []) (xs := xs)
    (fun i m nx => KjS Led ps stored m₀ P i m nx ∧ ∀ p ∈ nx, p.1 ≠ s.heap.objs.size ∧ p.1 ≠ s.heap.objs.size + 1) ?turn ?done xs.length 0 m₀ (Led c₀) (by simp) ⟨⟨c₀, rfl, hk, fun _ _ _ => rfl, hp⟩, fun p hp => ⟨Nat.ne_of_lt (Heap.lt_size (N p hp).1), Nat.ne_of_lt (Nat.lt_succ_of_lt (Heap.lt_size (N p hp).1))⟩⟩ trivial
  case turn =>
    rintro i a v h tk m nx ha hv ⟨⟨c, rfl, h1, h2, hp'⟩, hoff⟩ _ F₁
    intro o₁ hc1 o₂ hc2 N₁
    have hi : i < z.cps.size := by
      have := (List.getElem?_eq_some_iff.mp ha).1
      simpa [xs] using this
    have ha' := hx i _ (Array.getElem?_eq_getElem hi)
    rw [ha] at ha'
    cases ha'
    obtain ⟨T, t, x, rfl, hfl, hT⟩ := hv
    have hfl' := hfl h
    cases hfl'
    rw [← kj_map h1 h2] at F₁
    refine wpAny_mono (turn _ o₁ o₂ c i T t _ _ m h tk (Array.getElem?_eq_getElem hi) hoff hp' hT F₁ N₁) (fun _ s₂ h₂ => wpAny_mono h₂ (fun f s₃ p => ?_) fun _ _ e => e) fun _ _ e => e
    exact postJ_mono (fun m' n' off hj => ⟨trivial, hj, fun p hp => ⟨off p hp _ (.tail _ (.head _)), off p hp _ (.head _)⟩⟩) p
  case done =>
    rintro m nx h tk ⟨⟨c, rfl, h1, h2, hp'⟩, _⟩ F₁ N₁
    rw [← kj_map h1 h2] at F₁
    have e : xs.length = z.cps.size := by simp [xs]
    rw [e] at hp'
    exact done c m h tk hp' F₁ N₁
  rw [List.drop_zero] at rest
  refine ktu_core (tk0 := s.toks) (keep := []) (ws := [(s.heap.objs.size + 1, "enumerate"), (s.heap.objs.size, "str_ascii_iterator")]) (KTurns.ofWalksU (WalksT.enumerateD (Draws.strAscii (A := A.in1) hh s.heap.objs.size z tz) (s.heap.objs.size + 1) (Nat.succ_ne_self _) (fun hm => Nat.succ_ne_self _ (List.mem_singleton.mp hm)) (by simp)).toU) (by simp [xs]) ?_ ?_ ?_ ?_ ?_ ?_ ?_ ?_ (F.keeps hkeep) (N.grown hkeep) trivial rest
  · rintro i v h ⟨T, vals, rfl, ⟨t, x, ⟨c, u, hc, rfl⟩, rfl⟩, hT⟩
    exact ⟨_, hx i c hc, T, t, _, rfl, fun _ => Reads.str _ _, hT⟩
  · rintro i h ⟨⟨old, he⟩, ⟨oi, hoi, hic, _⟩⟩
    have he' : ∃ oe : Obj, h.get? (s.heap.objs.size + 1) = some oe ∧ oe.cls = .type "enumerate" := ⟨_, he, rfl⟩
    obtain ⟨oe, h1, h2⟩ := he'
    refine ⟨[(s.heap.objs.size + 1, oe), (s.heap.objs.size, oi)], ⟨⟨rfl, h2⟩, ⟨rfl, hic⟩, trivial⟩, fun p hp => ?_⟩
    rcases List.mem_cons.mp hp with rfl | hp
    · exact h1
    · rw [List.mem_singleton.mp hp]; exact hoi
  · intro b hb
    have hb' : b = s.heap.objs.size + 1 ∨ b = s.heap.objs.size := by simpa using hb
    rcases hb' with rfl | rfl
    · exact ⟨by simp, ktu_new F (Nat.le_add_right _ _)⟩
    · exact ⟨by simp, ktu_new F (Nat.le_refl _)⟩
  · intro b hb
    simpa using hb
  · intro b hb
    have hb' : b = s.heap.objs.size + 1 ∨ b = s.heap.objs.size := by simpa using hb
    rcases hb' with rfl | rfl
    · exact .inl (by simp)
    · exact .inl (by simp)
  · intro hm
    have hb' : env.locals = s.heap.objs.size + 1 ∨ env.locals = s.heap.objs.size := by simpa using hm
    rcases hb' with e | e
    · exact ktu_ne 1 hLs e
    · exact Nat.ne_of_lt hLs e
  · intro p hp hm
    have hb' : p.1 = s.heap.objs.size + 1 ∨ p.1 = s.heap.objs.size := by simpa using hm
    have hlp := Heap.lt_size (N p hp).1
    rcases hb' with e | e
    · exact ktu_ne 1 hlp e
    · exact Nat.ne_of_lt hlp e
  · exact ⟨⟨.none, hE⟩, hI'⟩
end
end Mine
end
section
open PySem PySem.W PyProof.Rows
namespace Mine
theorem freshC12 : True := by
  k_with_none
  w_top off
  (try (have _h : ∀ (M : Model) (A : Around) (Q : Flow → _) (E : Value → _) (s : Shared) (e : Env), wpAny M A (execs [] e) Q E s := by (intros; walk1; fail "no")))
  k_with "omega" => (first | with_reducible assumption | exact rm1 (by with_reducible assumption) rfl | exact rm2 (by with_reducible assumption) rfl | exact rm3 (by with_reducible assumption) rfl | exact rm4 (by with_reducible assumption) rfl | exact rm0 (by with_reducible assumption) | with_reducible exact ⟨by with_reducible assumption, by with_reducible assumption⟩ | with_reducible exact Or.inl (by with_reducible assumption) | with_reducible exact Or.inr (by with_reducible assumption) | with_reducible exact i1 (by decide) | with_reducible exact i2 | with_reducible exact i3 | with_reducible exact i4 (by decide) | with_reducible exact j1 (by with_reducible assumption) (by decide) | with_reducible exact j2 (by with_reducible assumption) (by decide) | with_reducible exact i5 (by with_reducible assumption) (by decide) | with_reducible exact i6 (by with_reducible assumption) (by decide) | with_reducible exact i7 (by with_reducible assumption))
  trivial
theorem wordsC12_1 : True := by
  k_with "call type:type" => ((with_reducible show wpAny _ _ (call _ [Value.bytes _ _]) _ _ _); refine PySem.call_type_of (Tx := "bytes") rfl (by decide +kernel) ?_)
  k_with "k_all" => (exact neLow (by assumption))
  k_with "k_steps" => (repeat' ((fail_if_success (with_reducible show InvEndN _ _ _ _ _ _ _)); (fail_if_success (with_reducible show InvEndG _ _ _ _ _ _)); (fail_if_success (with_reducible show UnrEndW _ _ _ _ _ _)); (fail_if_success (with_reducible show wpAny _ _ (pyIter _) _ _ _)); (first | (k_unfold; (try dsimp only)) | (k_end; kc_close) | walk1 | (dsimp only; walk1) | (leave1; walk_say "STEP leave1"; (try dsimp only)) | fail "no step")))
  k_with "ite" => (first | with_reducible refine ite_tt ?_ | with_reducible refine ite_ff ?_ | (with_reducible refine ieq_yes ?_ ?_; (focus (first | lia | omega))) | (with_reducible refine ieq_no ?_ ?_; (focus (first | lia | omega))) | (with_reducible refine ine_yes ?_ ?_; (focus (first | lia | omega))) | (with_reducible refine ine_no ?_ ?_; (focus (first | lia | omega))) | (with_reducible refine idec_yes ?_ ?_; (focus (first | lia | omega))) | (with_reducible refine idec_no ?_ ?_; (focus (first | lia | omega))))
  k_with "call builtin:len" => (k_here; (with_reducible show wpAny _ _ (call (Value.builtin "len") [Value.str _ _]) _ _ _); k_dflt (refine P.len_str ?lnf ?_; (case lnf => (first | lia | omega))))
  k_with "k_all" => (with_reducible assumption)
  trivial
noncomputable def insTab : List Str := [Str.ofString "", Str.ofString "!", Str.ofString "-_", Str.ofString ".", Str.ofString "", Str.ofString ""]
noncomputable def deedF (ns : List Int) (k : Int) : Int := (k + (if ns = [] then 0 else ns.getD (k.fmod (ns.length : Int)).toNat 0)).fmod 6
noncomputable def insF (ns : List Int) (k : Int) : Str := insTab.getD (deedF ns k).toNat Str.empty
theorem deed_rng (a : Int) : 0 ≤ a.fmod 6 ∧ a.fmod 6 < 6 := ⟨Int.fmod_nonneg_of_pos _ (by decide), Int.fmod_lt_of_pos _ (by decide)⟩
theorem ins_len (ns : List Int) (k : Int) : (insF ns k).length ≤ 2 := by
  have h := deed_rng (k + (if ns = [] then 0 else ns.getD (k.fmod (ns.length : Int)).toNat 0))
  unfold insF deedF
  generalize (k + (if ns = [] then 0 else ns.getD (k.fmod (ns.length : Int)).toNat 0)).fmod 6 = d at h
  obtain ⟨h0, h1⟩ := h
  have : d = 0 ∨ d = 1 ∨ d = 2 ∨ d = 3 ∨ d = 4 ∨ d = 5 := by exact dn01 0x3efbdf7df7ded103b400ecf03b380ecd03b300e9203900c (by k_ne) h0 h1
  rcases this with rfl | rfl | rfl | rfl | rfl | rfl <;> decide +kernel
theorem tab_len (i : Nat) : (insTab.getD i Str.empty).length ≤ 2 := by
  match i with
  | 0 => decide +kernel
  | 1 => decide +kernel
  | 2 => decide +kernel
  | 3 => decide +kernel
  | 4 => decide +kernel
  | 5 => decide +kernel
  | n + 6 => exact Nat.zero_le _
theorem iaddT {prog : Program} {w : World} {A : Around} {E : Value → Shared → Prop} {s : Shared} {S : Str} {t u : Tok} {i : Nat} {Q : Value → Shared → Prop} (hS : S.length ≤ 1000)
    (h : ∀ t' k, (S ++ insTab.getD i Str.empty).length ≤ S.length + 2 → Q (.str (S ++ insTab.getD i Str.empty) t') { s with toks := k }) : wpAny (model prog w) A (inplaceOp .Add (.str S t) (.str (insTab.getD i Str.empty) u)) Q E s :=
  SBL.iadd (fun t' k hh => h t' k (by have := hh.2; have := tab_len i; exact dn30 0x3efb6bce040d8e0b6bc2040 (by k_ne) hh.2 this)) (by rw [PySem.sizeLine_eq]; have := tab_len i; exact dn20 0x3efb6000000000001000000b6f040d8e0763e8b00 (by k_ne) hS this)
theorem iaddI {prog : Program} {w : World} {A : Around} {E : Value → Shared → Prop} {s : Shared} {S x : Str} {t u : Tok} {i : Int} {Q : Value → Shared → Prop} (hS : S.length ≤ 1000)
    (h : ∀ t' k, (S ++ Txt.item x i).length ≤ S.length + 1 → Q (.str (S ++ Txt.item x i) t') { s with toks := k }) : wpAny (model prog w) A (inplaceOp .Add (.str S t) (.str (Txt.item x i) u)) Q E s :=
  SBL.iadd (fun t' k hh => h t' k (by have := hh.2; have : (Txt.item x i).length = 1 := rfl; exact dn30 0x3efb6bcd040e0d0b6bc2040 (by k_ne) hh.2 this)) (by rw [PySem.sizeLine_eq]; have : (Txt.item x i).length = 1 := rfl; exact dn20 0x3efb6000000000001000000b6f040e0d0763e8b00 (by k_ne) hS this)
theorem wordsC12_3 : True := by
  k_with "inplaceOp Add str str" => (k_here; (with_reducible refine iaddT ?hS ?_); (case hS => (first | lia | omega)); intro _ _ _)
  k_with "inplaceOp Add str str" => (k_here; (with_reducible refine iaddI ?hS ?_); (case hS => (first | lia | omega)); intro _ _ _)
  trivial
noncomputable def stStep (ns : List Int) (x : Str) (c : Str × List (Int × Int)) (k : Int) : Str × List (Int × Int) :=
  if k < (x.length : Int) ∧ ((Txt.item x k == Str.ofString "=") = true ∨ ¬ (deedF ns k).fmod 3 = 0) then (c.1 ++ insF ns k ++ Txt.item x k, c.2 ++ [(k, ((c.1 ++ insF ns k).length : Int))]) else (c.1 ++ insF ns k, c.2)
noncomputable def stF (ns : List Int) (x : Str) (i : Nat) : Str × List (Int × Int) := (List.range i).foldl (fun c (k : Nat) => stStep ns x c (k : Int)) (Str.mk #[], [])
theorem stF_succ (ns : List Int) (x : Str) (i : Nat) : stF ns x (i + 1) = stStep ns x (stF ns x i) (i : Int) := by
  unfold stF; rw [List.range_succ, List.foldl_append]; rfl
noncomputable def kdL (l : List (Int × Int)) : List Dat := l.map fun p => .tuple [.int p.1, .int p.2]
theorem deed_ne {ns : List Int} (h : 0 < ns.length) (k : Int) : deedF ns k = (k + ns.getD (k.fmod (ns.length : Int)).toNat 0).fmod 6 := by
  unfold deedF
  rw [if_neg (fun e => by rw [e] at h; exact absurd h (Nat.lt_irrefl _))]
theorem deed_nil {ns : List Int} (h : ¬ 0 < ns.length) (k : Int) : deedF ns k = (k + 0).fmod 6 := by
  unfold deedF
  rw [if_pos (List.eq_nil_of_length_eq_zero (by exact dn10 0xfb8300ff700c (by k_ne) h))]
theorem st_keep {ns : List Int} {x S : Str} {i : Nat} {d : Int} (hS : S = (stF ns x i).1) (hd : deedF ns (i : Int) = d) (hk : (i : Int) < (x.length : Int)) (hc : (Txt.item x (i : Int) == Str.ofString "=") = true ∨ ¬ d.fmod 3 = 0) :
    S ++ insTab.getD d.toNat Str.empty ++ Txt.item x (i : Int) = (stF ns x (i + 1)).1 ∧ (stF ns x (i + 1)).2 = (stF ns x i).2 ++ [((i : Int), ((S ++ insTab.getD d.toNat Str.empty).length : Int))] := by
  have hi : insF ns (i : Int) = insTab.getD d.toNat Str.empty := by unfold insF; rw [hd]
  rw [stF_succ, stStep, hd, if_pos ⟨hk, hc⟩, hi, ← hS]
  exact ⟨rfl, rfl⟩
theorem st_drop {ns : List Int} {x S : Str} {i : Nat} {d : Int} (hS : S = (stF ns x i).1) (hd : deedF ns (i : Int) = d) (hc : ¬ (i : Int) < (x.length : Int) ∨ ((Txt.item x (i : Int) == Str.ofString "=") = false ∧ d.fmod 3 = 0)) :
    S ++ insTab.getD d.toNat Str.empty = (stF ns x (i + 1)).1 ∧ (stF ns x (i + 1)).2 = (stF ns x i).2 := by
  have hi : insF ns (i : Int) = insTab.getD d.toNat Str.empty := by unfold insF; rw [hd]
  rw [stF_succ, stStep, hd, if_neg (by
    rcases hc with hc | ⟨h1, h2⟩
    · exact fun e => hc e.1
    · rintro ⟨_, e | e⟩
      · rw [h1] at e; exact Bool.false_ne_true e
      · exact e h2), hi, ← hS]
  exact ⟨rfl, rfl⟩
theorem rng_up (n : Nat) : Builtin.Range.rangeSize 0 ((n : Int) + 1) 1 = ((n + 1 : Nat) : Int) := by
  unfold Builtin.Range.rangeSize
  simp
theorem allLt_mem {d : Addr} (l : List (Addr × Obj)) (h : AllLt d l) : ∀ p ∈ l, p.1 < d := by
  induction l with
  | nil => exact fun p hp => nomatch hp
  | cons q r ih =>
    intro p hp
    rcases List.mem_cons.mp hp with e | hp
    · rw [e]; exact h.1
    · exact ih h.2 p hp
theorem isTup_of {h₀ h : Heap} {L T : Addr} {news : List (Addr × Obj)} {o : Obj} {vs : List Value} {n : Nat} (N : News h₀ L h news) (hm : (T, o) ∈ news) (hc : o.cls = .type "tuple") (hd : o.data = .seq vs.toArray n) : IsTup h T vs.toArray := ⟨o, (N _ hm).1, hc, n, hd⟩
theorem wordsC12_4 : True := by
  k_with "subscriptTail" => (k_here; (with_reducible show wpAny _ _ (subscriptTail _ _ (Value.ref _) (Value.int (deedF _ _) _)) _ _ _); k_dflt (refine' KTb.item_tup (ws := insTab) (isTup_of ?hN ?hm ?hc ?hd) ?hw ?h0 ?h1 ?hf ?_; (case hN => k_asm); (case hm => k_mem); (case hc => rfl); (case hd => rfl); (case hw => exact .cons _ _ (.cons _ _ (.cons _ _ (.cons _ _ (.cons _ _ (.cons _ _ .nil)))))); (case h0 => exact (deed_rng _).1); (case h1 => exact (deed_rng _).2); (case hf => exact Int.lt_trans (deed_rng _).2 (by decide)); k_whole); intro _ _)
  k_with "spliced" => (k_here; (with_reducible show wpAny _ _ (spliced (backTo _ (starEach (_ :: _) _))) _ _ _); k_dflt (refine' args_pure (g := sg) (d := sd) (o := so) ?w8a ?w8F ?w8p ?_; (case w8a => exact rfl); (case w8F => k_asm); (case w8p => exact rfl); k_whole); (dsimp only [PVK, List.cons_append, List.nil_append]); intros)
  k_with "same" => (repeat (first | with_reducible exact sameE | ((with_reducible refine kstJ ?_ ?_ ?_); rfl; rfl) | ((with_reducible refine updJ ?_ ?_); rfl) | ((with_reducible refine upLJ ?_ ?_); rfl)))
  k_with "storeName" => (k_here; k_dflt (first | (refine' storeJ (g := sg) (d := sd) (o := so) ?F ?N ?_ ?a ?b; (case F => k_asm); (case N => k_asm); (case a => rfl); (case b => rfl); k_whole; intro _ _ _ _ _ _) | (refine' storeV (g := sg) (d := sd) (o := so) ?F ?N ?_ ?a ?b; (case F => k_asm); (case N => k_asm); (case a => rfl); (case b => rfl); k_whole; intro _ _ _ _)); (try k_sweep))
  k_with "execs cons" => (k_here; (with_reducible show wpAny _ _ (execs (Stmt.If _ _ _ _ :: _) _) _ _ _); k_dflt (first | (refine' if_yes (g := sg) (d := sd) (o := so) ?w9F ?w9p ?w9P ?_ ?w9a ?w9b; (case w9F => k_asm); (case w9p => exact rfl); (case w9P => first | (first | lia | omega) | (first | exact rfl | assumption | exact ⟨by first | (first | lia | omega) | assumption, by first | exact rfl | assumption | (first | lia | omega)⟩)); (case w9a => exact rfl); (case w9b => first | dsimp only [List.cons_append, List.nil_append] | exact rfl); k_whole; intro _) | (refine' if_no (g := sg) (d := sd) (o := so) ?w9F ?w9p ?w9P ?_ ?w9a ?w9b; (case w9F => k_asm); (case w9p => exact rfl); (case w9P => first | (first | lia | omega) | (first | exact rfl | assumption | exact Or.inl (by first | (first | lia | omega) | assumption | exact rfl) | exact Or.inr (by first | (first | lia | omega) | assumption | exact rfl))); (case w9a => exact rfl); (case w9b => first | dsimp only [List.cons_append, List.nil_append] | exact rfl); k_whole; intro _)))
  k_with "execs cons" => (k_here; (with_reducible show wpAny _ _ (execs (Stmt.Assign [Expr.Name _ _] _ _ :: _) _) _ _ _); k_dflt (refine' as_int (g := sg) (d := sd) (o := so) ?w9F ?w9N ?w9p ?_ ?w9a ?w9b ?w9c; (case w9F => k_asm); (case w9N => k_asm); (case w9p => exact rfl); (case w9a => exact rfl); (case w9b => exact rfl); (case w9c => exact rfl); k_whole; intro _ _ _ _ _ _; (try k_sweep)))
  k_with "execs cons" => (k_here; (with_reducible show wpAny _ _ (execs (Stmt.Expr (Expr.Call (Expr.Attribute (Expr.Name _ _) _ _) [_] [] _) _ :: _) _) _ _ _); first | ((with_reducible show wpAny _ _ (execs (Stmt.Expr (Expr.Call _ [Expr.Tuple _ _ _] _ _) _ :: _) _) _ _ _); k_dflt (refine' app_tup (g := sg) (d := sd) (o := so) ?w5F ?w5N ?w5m ?w5q ?w5p ?w5U ?w5z ?w5v ?_ ?w5k ?w5x ?w5e ?w5i ?w5s; (case w5q => exact rfl); (case w5F => k_asm); (case w5N => k_asm); (case w5m => exact rfl); (case w5p => exact rfl); (case w5U => (intro _; k_upd)); (case w5z => first | exact Nat.le_of_ble_eq_true rfl | lia | omega | (simp only [List.length_append, List.length_cons, List.length_nil]; first | lia | omega)); (case w5v => exact Nat.le_of_ble_eq_true rfl); (case w5k => exact rfl); (case w5x => exact rfl); (case w5e => exact rfl); (case w5i => exact rfl); (case w5s => exact rfl); k_whole; intro _ _ _ _ _ w5n w5l; (try dsimp only [valw] at w5n); (try k_lt w5l))) | ((fail_if_success (with_reducible show wpAny _ _ (execs (Stmt.Expr (Expr.Call _ [Expr.Tuple _ _ _] _ _) _ :: _) _) _ _ _)); k_dflt (first | (refine' app_v (g := sg) (d := sd) (o := so) ?w5F ?w5N ?w5m ?w5q ?w5p ?w5U ?w5z ?_ ?w5k ?w5x ?w5t ?w5e ?w5i ?w5s; (case w5q => exact rfl); (case w5F => k_asm); (case w5N => k_asm); (case w5m => exact rfl); (case w5p => exact rfl); (case w5U => k_upd); (case w5z => first | exact Nat.le_of_ble_eq_true rfl | lia | omega | (simp only [List.length_append, List.length_cons, List.length_nil]; first | lia | omega)); (case w5k => exact rfl); (case w5x => exact rfl); (case w5t => exact rfl); (case w5e => exact rfl); (case w5i => exact rfl); (case w5s => exact rfl); k_whole; intro _ _ _ w5n; (try dsimp only at w5n)) | (refine' app_i (g := sg) (d := sd) (o := so) ?w5F ?w5N ?w5m ?w5q ?w5p ?w5U ?w5z ?_ ?w5k ?w5x ?w5t ?w5e ?w5i ?w5s; (case w5q => exact rfl); (case w5F => k_asm); (case w5N => k_asm); (case w5m => exact rfl); (case w5p => exact rfl); (case w5U => (intro _; k_upd)); (case w5z => first | exact Nat.le_of_ble_eq_true rfl | lia | omega | (simp only [List.length_append, List.length_cons, List.length_nil]; first | lia | omega)); (case w5k => exact rfl); (case w5x => exact rfl); (case w5t => exact rfl); (case w5e => exact rfl); (case w5i => exact rfl); (case w5s => exact rfl); k_whole; intro _ _ _ _ w5n; (try dsimp only at w5n)))); (try k_sweep))
  k_with "assignInOrder" => (k_here; k_dflt (first | (refine' asg_names (g := sg) (d := sd) (o := so) ?w6F ?w6N ?w6p ?w6l ?_ ?w6a ?w6k; (case w6F => k_asm); (case w6N => k_asm); (case w6p => exact rfl); (case w6l => exact rfl); (case w6a => exact rfl); (case w6k => exact rfl); k_whole; intro _ _ _ _ _) | (refine' asg_bind (g := sg) (d := sd) (o := so) ?w6k ?w6F ?w6N ?w6l ?_ ?w6a; (case w6F => k_asm); (case w6N => k_asm); (case w6l => exact rfl); (case w6a => exact rfl); (case w6k => exact rfl); k_whole; intro _ _ _ _ _)); (try k_sweep))
  trivial
section
variable {w : World} {base : Heap} {news : News0}
set_option maxRecDepth 100000
set_option maxHeartbeats 8000000
theorem c_law_strewn (x : Str) (t : Tok) (hx : ∀ c ∈ x.cps.toList, c < 128) (hl : x.length ≤ 20) (l : Addr) (vs : List Value) (ns : List Int) (hls : base.IsList l vs.toArray) (hI : IntsAre vs ns) (hlen : ns.length ≤ 63) : Con w 1 base news (call (.ref 346) [.str x t, .ref l])
    (fun G => ∀ (r lk : Addr) (vk : List Value) (n : Nat) (tS : Tok) (rest : News0), (∀ p ∈ news, p ∈ rest) → (∀ p ∈ rest, p.1 ≠ lk) → (∀ p ∈ rest, p.1 ≠ r) → lk < r → DatAll rest vk (kdL (stF ns x (x.length + 1)).2) →
      G (.ref r) ((r, { cls := .type "tuple", data := .seq #[.str (stF ns x (x.length + 1)).1 tS, .ref lk] }) :: (lk, listOf vk.toArray n) :: rest)) := by
  refine Con.mk2 ?_
  intro p loose mean mg mb dp un gd cn cns cg cc cm a ccd cl outer A₀ h₀ L m sh sg sd sk so Q E B F X N T hd hu hret
  refine wpAny_call ?_
  k_dflt k_enter
  have hMk := kstMark
  (rename Fr _ _ _ _ => lFe); refine fr_let lFe ?_; clear lFe; intro me lFe
  refine let_A ?_
  intro A9
  k_steps
  rename Fr _ _ _ _ => lF'
  rename News _ _ _ _ => lN'
  rename IsRange _ _ _ _ _ _ _ _ => rgX
  rename ∀ p ∈ news, p.1 < _ => hlk
  k_dflt (with_unfolding_all refine' kj_range (σ := (Str × Tok) × (List Value × Nat) × List (Addr × Obj)) (n := x.length + 1) (fun c => (_, listOf c.2.1.1.toArray c.2.1.2) :: c.2.2) (fun c => [("strewn", .str c.1.1 c.1.2)]) ["k", "deed"] (fun i c => c.1.1 = (stF ns x i).1 ∧ c.1.1.length ≤ 3 * i ∧ DatAll c.2.2 c.2.1.1 (kdL (stF ns x i).2) ∧ c.2.1.1.length ≤ i ∧ (∀ p ∈ news, p ∈ c.2.2) ∧ (∀ p ∈ c.2.2, p.1 ≠ _)) ((⟨#[]⟩, _), ([], _), news) (by rfl) rgX ?hsm (rng_up _) (by rfl) lF' lN' ?hk ⟨rfl, Nat.zero_le _, by exact DatAll.nil, Nat.zero_le _, fun _ h => h, fun p hp => Nat.ne_of_lt (hlk p hp)⟩ ?hxp ?turn ?done)
  case hsm =>
    have : x.length ≤ 20 := hl
    exact PySem.small_one (by decide) (by decide) (by exact dn10 0x39bcdd00d7e0ae (by k_ne)) (by exact dn10 0xfbaf82baf374036800 (by k_ne) hl)
  case hk =>
    refine fall_cons (by rfl) ?_
    exact fun _ h => nomatch h
  case hxp =>
    intro c p hp
    rcases List.mem_cons.mp hp with rfl | hp
    · exact (by decide : Str.ofString "strewn" ≠ Str.ofString "k")
    cases hp
  case turn =>
    intro I oI c8
    refine match c8 with | ⟨⟨S9, tS⟩, ⟨vs9, n9⟩, rest9⟩ => ?_
    intro i k9 t9 u9 h9 tk9 hk9 hi9 hoff hP18 F9 N9
    refine opqG fun G8 hG8 => ?_
    obtain ⟨hS9, hlen9, hD9, hvl9, hsub9, hne9⟩ := hP18
    refine hG8 ?_
    clear hG8 G8
    clear lF' lN'
    dsimp only at hS9 hlen9 hD9 hvl9 hsub9 hne9 F9 N9 hoff
    refine fr_let F9 ?_
    clear F9
    intro mf9 F9
    refine opqQ fun RR hRR => ?_
    have hI1 := hoff _ (.head _)
    have hI2 : ∀ p ∈ rest9, p.1 ≠ I := fun p hp => hoff p (.tail _ hp)
    have hI3 := Ne.symm hI1
    dsimp only at hI1 hI3
    have hk9' : k9 = (i : Int) := by exact dn11 0x3eef4000eefd00300 (by k_ne) hk9
    subst hk9'
    refine cutM 1 F9 N9 (fun (c : Int × Tok) y => if y = Str.ofString "deed" then some (.int c.1 c.2) else mf9 y) (fun c => c.1 = deedF ns (i : Int)) ?st1 ?st2
    case st1 =>
      dsimp only [List.take_succ_cons, List.take_zero]
      intro R hR _
      k_steps
      · rename Fr _ _ _ _ => F7
        rename News _ _ _ _ => N7
        exact hR (_, _) _ _ F7 N7 (deed_ne ‹0 < ns.length› (i : Int)).symm
      · rename Fr _ _ _ _ => F7
        rename News _ _ _ _ => N7
        exact hR (_, _) _ _ F7 N7 (deed_nil ‹¬ 0 < ns.length› (i : Int)).symm
    case st2 =>
      clear F9 N9
      dsimp only [List.drop_succ_cons, List.drop_zero]
      intro c2
      refine match c2 with | ⟨d2, t2⟩ => ?_
      intro h2 k2 F9 N9 p2
      dsimp only at p2 F9
      subst p2
      refine fr_let F9 ?_
      clear F9
      intro mf2 F9
      k_steps
      · skip
        rename Fr _ _ _ _ => F7
        rename News _ _ _ _ => N7
        (try simp only [List.push_toArray] at N7)
        have hkx : (i : Int) < (x.length : Int) := by assumption
        have hst := st_keep hS9 rfl hkx (by first | exact .inl (by assumption) | exact .inr (by assumption))
        refine hRR _ _ ?_; (show UnrEndW _ _ _ _ _ _); refine' kj_end ((S9 ++ _ ++ Txt.item x (i : Int), _), (vs9 ++ [.ref _], n9 + 1), (_, _) :: rest9) F7 N7 ?hI ?hn ?off ?hk ?hr ⟨?p1, ?p2, ?p3, ?p4, ?p5, ?p6⟩
        case hk =>
          refine fall_cons (by rfl) ?_
          exact fun _ h => nomatch h
        case hn =>
          refine fall_cons (by k_mem) ?_
          refine fall_cons (by k_mem) ?_
          exact fun p hp => .tail _ (.tail _ (.tail _ (.tail _ hp)))
        case hI => k_mem
        case off =>
          refine fall_cons (by exact hI1) ?_
          refine fall_cons (by k_ne) ?_
          exact fun p hp => hI2 p hp
        case hr =>
          refine sameJ ?_
          k_extra "same"
        case p1 => exact hst.1
        case p2 => dsimp only; exact dn40 0x3efbedb1bcd04f0f6bcd083daf3800b6c413c0 (by k_ne) hlen9 ‹_› ‹_›
        case p3 =>
          show DatAll _ _ (kdL (stF ns x (i + 1)).2)
          rw [hst.2, kdL, List.map_append]
          exact DatAll.append (hD9.mono fun p hp => .tail _ hp) (.one (.tuple (.head _) (.cons (.int _ _) (.cons (.int _ _) .nil))))
        case p4 => show (vs9 ++ [_]).length ≤ _; rw [List.length_append, List.length_singleton]; exact dn20 0x3edaf341bcd036040 (by k_ne) hvl9
        case p5 => exact fun p hp => .tail _ (hsub9 p hp)
        case p6 =>
          refine fall_cons (by k_ne) ?_
          exact fun p hp => hne9 p hp
      · skip
        rename Fr _ _ _ _ => F7
        rename News _ _ _ _ => N7
        (try simp only [List.push_toArray] at N7)
        have hkx : (i : Int) < (x.length : Int) := by assumption
        have hst := st_keep hS9 rfl hkx (by first | exact .inl (by assumption) | exact .inr (by assumption))
        refine hRR _ _ ?_; (show UnrEndW _ _ _ _ _ _); refine' kj_end ((S9 ++ _ ++ Txt.item x (i : Int), _), (vs9 ++ [.ref _], n9 + 1), (_, _) :: rest9) F7 N7 ?hI ?hn ?off ?hk ?hr ⟨?p1, ?p2, ?p3, ?p4, ?p5, ?p6⟩
        case hk =>
          refine fall_cons (by rfl) ?_
          exact fun _ h => nomatch h
        case hn =>
          refine fall_cons (by k_mem) ?_
          refine fall_cons (by k_mem) ?_
          exact fun p hp => .tail _ (.tail _ (.tail _ (.tail _ hp)))
        case hI => k_mem
        case off =>
          refine fall_cons (by exact hI1) ?_
          refine fall_cons (by k_ne) ?_
          exact fun p hp => hI2 p hp
        case hr =>
          refine sameJ ?_
          k_extra "same"
        case p1 => exact hst.1
        case p2 => dsimp only; exact dn40 0x3efbedb1bcd04f0f6bcd083daf3800b6c413c0 (by k_ne) hlen9 ‹_› ‹_›
        case p3 =>
          show DatAll _ _ (kdL (stF ns x (i + 1)).2)
          rw [hst.2, kdL, List.map_append]
          exact DatAll.append (hD9.mono fun p hp => .tail _ hp) (.one (.tuple (.head _) (.cons (.int _ _) (.cons (.int _ _) .nil))))
        case p4 => show (vs9 ++ [_]).length ≤ _; rw [List.length_append, List.length_singleton]; exact dn20 0x3edaf341bcd036040 (by k_ne) hvl9
        case p5 => exact fun p hp => .tail _ (hsub9 p hp)
        case p6 =>
          refine fall_cons (by k_ne) ?_
          exact fun p hp => hne9 p hp
      · skip
        rename Fr _ _ _ _ => F7
        rename News _ _ _ _ => N7
        have hst := st_drop hS9 rfl (by first | exact .inl (by assumption) | exact .inr ⟨by assumption, by assumption⟩)
        refine hRR _ _ ?_; (show UnrEndW _ _ _ _ _ _); refine' kj_end ((S9 ++ _, _), (vs9, n9), rest9) F7 N7 ?hI ?hn ?off ?hk ?hr ⟨?p1, ?p2, ?p3, ?p4, ?p5, ?p6⟩
        case hk =>
          refine fall_cons (by rfl) ?_
          exact fun _ h => nomatch h
        case hn => exact fun p hp => .tail _ (.tail _ hp)
        case hI => k_mem
        case off => exact hoff
        case hr =>
          refine sameJ ?_
          k_extra "same"
        case p1 => exact hst.1
        case p2 => dsimp only; exact dn30 0x3efb6c6f3413c2daf3800b6c413c0 (by k_ne) hlen9 ‹_›
        case p3 => show DatAll _ _ (kdL (stF ns x (i + 1)).2); rw [hst.2]; exact hD9
        case p4 => show vs9.length ≤ _; exact dn20 0x3edaf341036040 (by k_ne) hvl9
        case p5 => exact hsub9
        case p6 => exact hne9
      · skip
        rename Fr _ _ _ _ => F7
        rename News _ _ _ _ => N7
        have hst := st_drop hS9 rfl (by first | exact .inl (by assumption) | exact .inr ⟨by assumption, by assumption⟩)
        refine hRR _ _ ?_; (show UnrEndW _ _ _ _ _ _); refine' kj_end ((S9 ++ _, _), (vs9, n9), rest9) F7 N7 ?hI ?hn ?off ?hk ?hr ⟨?p1, ?p2, ?p3, ?p4, ?p5, ?p6⟩
        case hk =>
          refine fall_cons (by rfl) ?_
          exact fun _ h => nomatch h
        case hn => exact fun p hp => .tail _ (.tail _ hp)
        case hI => k_mem
        case off => exact hoff
        case hr =>
          refine sameJ ?_
          k_extra "same"
        case p1 => exact hst.1
        case p2 => dsimp only; exact dn30 0x3efb6c6f3413c2daf3800b6c413c0 (by k_ne) hlen9 ‹_›
        case p3 => show DatAll _ _ (kdL (stF ns x (i + 1)).2); rw [hst.2]; exact hD9
        case p4 => show vs9.length ≤ _; exact dn20 0x3edaf341036040 (by k_ne) hvl9
        case p5 => exact hsub9
        case p6 => exact hne9
  case done =>
    intro c8
    refine match c8 with | ⟨⟨S9, tS⟩, ⟨vs9, n9⟩, rest9⟩ => ?_
    intro u9 h9 tk9 hP18 F9 N9
    refine opqG fun G8 hG8 => ?_
    obtain ⟨hS9, hlen9, hD9, hvl9, hsub9, hne9⟩ := hP18
    refine hG8 ?_
    clear hG8 G8
    clear lF' lN'
    dsimp only at hS9 hlen9 hD9 hvl9 hsub9 hne9 F9 N9
    refine fr_let F9 ?_
    clear F9
    intro mf9 F9
    subst hS9
    k_steps
    rename_i hl7 kF kN _ _
    obtain ⟨hl8, hl9⟩ := hl7
    exact hret _ _ _ _ _ _ hsub9 hne9 (fun p hp => Nat.ne_of_lt (allLt_mem _ hl9 p hp)) hl8 hD9 _ _ kF kN
end
end Mine
end
section
open PySem PySem.W PyProof.Rows
namespace Mine
theorem freshC13 : True := by
  k_with_none
  w_top off
  (try (have _h : ∀ (M : Model) (A : Around) (Q : Flow → _) (E : Value → _) (s : Shared) (e : Env), wpAny M A (execs [] e) Q E s := by (intros; walk1; fail "no")))
  k_with "omega" => (first | with_reducible assumption | exact rm1 (by with_reducible assumption) rfl | exact rm2 (by with_reducible assumption) rfl | exact rm3 (by with_reducible assumption) rfl | exact rm4 (by with_reducible assumption) rfl | exact rm0 (by with_reducible assumption) | with_reducible exact ⟨by with_reducible assumption, by with_reducible assumption⟩ | with_reducible exact Or.inl (by with_reducible assumption) | with_reducible exact Or.inr (by with_reducible assumption) | with_reducible exact i1 (by decide) | with_reducible exact i2 | with_reducible exact i3 | with_reducible exact i4 (by decide) | with_reducible exact j1 (by with_reducible assumption) (by decide) | with_reducible exact j2 (by with_reducible assumption) (by decide) | with_reducible exact i5 (by with_reducible assumption) (by decide) | with_reducible exact i6 (by with_reducible assumption) (by decide) | with_reducible exact i7 (by with_reducible assumption))
  trivial
theorem wordsC13_1 : True := by
  k_with "call type:type" => ((with_reducible show wpAny _ _ (call _ [Value.bytes _ _]) _ _ _); refine PySem.call_type_of (Tx := "bytes") rfl (by decide +kernel) ?_)
  k_with "k_all" => (exact neLow (by assumption))
  k_with "k_steps" => (repeat' ((fail_if_success (with_reducible show InvEndN _ _ _ _ _ _ _)); (fail_if_success (with_reducible show InvEndG _ _ _ _ _ _)); (fail_if_success (with_reducible show UnrEndW _ _ _ _ _ _)); (fail_if_success (with_reducible show wpAny _ _ (pyIter _) _ _ _)); (first | (k_unfold; (try dsimp only)) | (k_end; kc_close) | walk1 | (dsimp only; walk1) | (leave1; walk_say "STEP leave1"; (try dsimp only)) | fail "no step")))
  k_with "ite" => (first | with_reducible refine ite_tt ?_ | with_reducible refine ite_ff ?_ | (with_reducible refine ieq_yes ?_ ?_; (focus (first | lia | omega))) | (with_reducible refine ieq_no ?_ ?_; (focus (first | lia | omega))) | (with_reducible refine ine_yes ?_ ?_; (focus (first | lia | omega))) | (with_reducible refine ine_no ?_ ?_; (focus (first | lia | omega))) | (with_reducible refine idec_yes ?_ ?_; (focus (first | lia | omega))) | (with_reducible refine idec_no ?_ ?_; (focus (first | lia | omega))))
  k_with "call builtin:len" => (k_here; (with_reducible show wpAny _ _ (call (Value.builtin "len") [Value.str _ _]) _ _ _); k_dflt (refine P.len_str ?lnf ?_; (case lnf => (first | lia | omega))))
  k_with "k_all" => (with_reducible assumption)
  trivial
noncomputable abbrev Op5 := Str × Int × Int × Int × Int
noncomputable def opD (o : Op5) : Dat := .tuple [.str o.1, .int o.2.1, .int o.2.2.1, .int o.2.2.2.1, .int o.2.2.2.2]
noncomputable def cdStep (n : Int) (c : List Op5 × Int × Int) (p : Int × Int) : List Op5 × Int × Int :=
  let t := if c.2.1 < p.1 ∧ c.2.2 < p.2 then c.1 ++ [(Str.ofString "replace", c.2.1, p.1, c.2.2, p.2)] else if c.2.1 < p.1 then c.1 ++ [(Str.ofString "delete", c.2.1, p.1, c.2.2, p.2)] else if c.2.2 < p.2 then c.1 ++ [(Str.ofString "insert", c.2.1, p.1, c.2.2, p.2)] else c.1
  (if p.1 < n then
    (match t.getLast? with
    | some o => if (o.1 == Str.ofString "equal") = true then t.dropLast ++ [(Str.ofString "equal", o.2.1, p.1 + 1, o.2.2.2.1, p.2 + 1)] else t ++ [(Str.ofString "equal", p.1, p.1 + 1, p.2, p.2 + 1)]
    | none => t ++ [(Str.ofString "equal", p.1, p.1 + 1, p.2, p.2 + 1)]) else t, p.1 + 1, p.2 + 1)
noncomputable def cd1 (c : List Op5 × Int × Int) (p : Int × Int) : List Op5 :=
  if c.2.1 < p.1 ∧ c.2.2 < p.2 then c.1 ++ [(Str.ofString "replace", c.2.1, p.1, c.2.2, p.2)] else if c.2.1 < p.1 then c.1 ++ [(Str.ofString "delete", c.2.1, p.1, c.2.2, p.2)] else if c.2.2 < p.2 then c.1 ++ [(Str.ofString "insert", c.2.1, p.1, c.2.2, p.2)] else c.1
theorem cdStep_of {n : Int} {c : List Op5 × Int × Int} {p : Int × Int} {t : List Op5} (e : t = cd1 c p) : cdStep n c p = (if p.1 < n then
    (match t.getLast? with
    | some o => if (o.1 == Str.ofString "equal") = true then t.dropLast ++ [(Str.ofString "equal", o.2.1, p.1 + 1, o.2.2.2.1, p.2 + 1)] else t ++ [(Str.ofString "equal", p.1, p.1 + 1, p.2, p.2 + 1)]
    | none => t ++ [(Str.ofString "equal", p.1, p.1 + 1, p.2, p.2 + 1)]) else t, p.1 + 1, p.2 + 1) := by subst e; rfl
noncomputable def cdF (n : Int) (ps : List (Int × Int)) : List Op5 × Int × Int := ps.foldl (cdStep n) ([], 0, 0)
theorem cdF_snoc (n : Int) (ps : List (Int × Int)) (p : Int × Int) : cdF n (ps ++ [p]) = cdStep n (cdF n ps) p := by unfold cdF; rw [List.foldl_append]; rfl
theorem dat_tup {R : List (Addr × Obj)} {v : Value} {ds : List Dat} (h : DatIn R v (.tuple ds)) : ∃ (T : Addr) (n : Nat) (vs : List Value), v = .ref T ∧ (T, ({ cls := .type "tuple", data := .seq vs.toArray n } : Obj)) ∈ R ∧ DatAll R vs ds := by
  cases h with
  | tuple hm ha => exact ⟨_, _, _, rfl, hm, ha⟩
theorem dat_cons {R : List (Addr × Obj)} {vs : List Value} {d : Dat} {ds : List Dat} (h : DatAll R vs (d :: ds)) : ∃ v ws, vs = v :: ws ∧ DatIn R v d ∧ DatAll R ws ds := by
  cases h with
  | cons h t => exact ⟨_, _, rfl, h, t⟩
theorem dat_nil {R : List (Addr × Obj)} {vs : List Value} (h : DatAll R vs []) : vs = [] := by cases h; rfl
theorem dat_int {R : List (Addr × Obj)} {v : Value} {i : Int} (h : DatIn R v (.int i)) : ∃ t, v = .int i t := by cases h; exact ⟨_, rfl⟩
theorem dat_str {R : List (Addr × Obj)} {v : Value} {x : Str} (h : DatIn R v (.str x)) : ∃ t, v = .str x t := by cases h; exact ⟨_, rfl⟩
theorem dat_i {R : List (Addr × Obj)} {vs : List Value} {i : Int} {ds : List Dat} (h : DatAll R vs (.int i :: ds)) : ∃ t ws, vs = .int i t :: ws ∧ DatAll R ws ds := by
  obtain ⟨v, ws, e, h, k⟩ := dat_cons h
  obtain ⟨t, e'⟩ := dat_int h
  exact ⟨t, ws, by rw [e, e'], k⟩
theorem dat_2 {R : List (Addr × Obj)} {vs : List Value} {i j : Int} {ds : List Dat} (h : DatAll R vs (.int i :: .int j :: ds)) : ∃ t u ws, vs = .int i t :: .int j u :: ws ∧ DatAll R ws ds := by
  obtain ⟨t, ws, e, k⟩ := dat_i h
  obtain ⟨u, ws', e', k'⟩ := dat_i k
  exact ⟨t, u, ws', by rw [e, e'], k'⟩
theorem pair_at {R : List (Addr × Obj)} {vs : List Value} {ps : List (Int × Int)} (h : DatAll R vs (kdL ps)) {i : Nat} {v : Value} (hv : vs[i]? = some v) :
    ∃ (T : Addr) (n : Nat) (t1 t2 : Tok) (k m : Int), v = .ref T ∧ ps.take (i + 1) = ps.take i ++ [(k, m)] ∧ (T, ({ cls := .type "tuple", data := .seq #[.int k t1, .int m t2] n } : Obj)) ∈ R := by
  have hi : i < (kdL ps).length := by rw [← h.length]; exact (List.getElem?_eq_some_iff.mp hv).1
  have hi' : i < ps.length := by simpa [kdL] using hi
  obtain ⟨u, hu, hd⟩ := h.get hi
  rw [hv] at hu
  cases hu
  have e : (kdL ps)[i] = .tuple [.int ps[i].1, .int ps[i].2] := by simp [kdL]
  rw [e] at hd
  obtain ⟨T, n, ws, eT, hm, ha⟩ := dat_tup hd
  obtain ⟨t, u, ws', e', k'⟩ := dat_2 ha
  rw [e', dat_nil k'] at hm
  exact ⟨T, n, t, u, _, _, eT, by rw [List.take_add_one, List.getElem?_eq_getElem hi']; rfl, hm⟩
theorem last_at (vs : List Value) (v : Value) : (vs ++ [v])[((-1 : Int) + (((vs ++ [v]).length : Nat) : Int)).toNat]? = some v := by
  have e : ((-1 : Int) + (((vs ++ [v]).length : Nat) : Int)).toNat = vs.length := by rw [List.length_append, List.length_singleton]; (first | lia | omega)
  rw [e, List.getElem?_append_right (Nat.le_refl _), Nat.sub_self]; rfl
theorem op_at {R : List (Addr × Obj)} {v : Value} {o : Op5} (h : DatIn R v (opD o)) : ∃ (T : Addr) (n : Nat) (t0 t1 t2 t3 t4 : Tok), v = .ref T ∧ (T, ({ cls := .type "tuple", data := .seq [.str o.1 t0, .int o.2.1 t1, .int o.2.2.1 t2, .int o.2.2.2.1 t3, .int o.2.2.2.2 t4].toArray n } : Obj)) ∈ R := by
  obtain ⟨T, n, ws, eT, hm, ha⟩ := dat_tup h
  obtain ⟨v0, w0, e0, h0, k0⟩ := dat_cons ha
  obtain ⟨t0, f0⟩ := dat_str h0
  obtain ⟨t1, t2, w1, e1, k1⟩ := dat_2 k0
  obtain ⟨t3, t4, w2, e2, k2⟩ := dat_2 k1
  rw [e0, f0, e1, e2, dat_nil k2] at hm
  exact ⟨T, n, t0, t1, t2, t3, t4, eT, hm⟩
theorem kqdOk_op {t : Str} {a b c d : Int} (h : PyData.strOk t = true) : kqdOk 8 (.tuple [.str t, .int a, .int b, .int c, .int d]) = true := by simp [kqdOk, h]
theorem dat_snoc {R : List (Addr × Obj)} : ∀ {ds : List Dat} {vs : List Value} {d : Dat}, DatAll R vs (ds ++ [d]) → ∃ ws u, vs = ws ++ [u] ∧ DatAll R ws ds ∧ DatIn R u d
  | [], _, _, h => by
    cases h with
    | cons h r => cases r; exact ⟨[], _, rfl, .nil, h⟩
  | e :: ds, _, _, h => by
    cases h with
    | cons h r =>
      obtain ⟨ws, u, rfl, h1, h2⟩ := dat_snoc r
      exact ⟨_ :: ws, u, rfl, .cons h h1, h2⟩
theorem kqdOk_map {l r : List Op5} (h1 : ∀ d ∈ l.map opD, kqdOk 8 d = true) (h2 : ∀ o ∈ r, PyData.strOk o.1 = true) : ∀ d ∈ (l ++ r).map opD, kqdOk 8 d = true := by
  intro d hd
  rw [List.map_append] at hd
  rcases List.mem_append.mp hd with hd | hd
  · exact h1 d hd
  · obtain ⟨o, ho, rfl⟩ := List.mem_map.mp hd
    exact kqdOk_op (h2 o ho)
theorem strOk_rep : PyData.strOk (Str.ofString "replace") = true := by decide +kernel
theorem strOk_del : PyData.strOk (Str.ofString "delete") = true := by decide +kernel
theorem strOk_ins : PyData.strOk (Str.ofString "insert") = true := by decide +kernel
theorem strOk_equ : PyData.strOk (Str.ofString "equal") = true := by decide +kernel
theorem snoc_cases {α : Type} (l : List α) : l = [] ∨ ∃ (a : List α) (b : α), l = a ++ [b] := by
  rcases List.eq_nil_or_concat l with h | ⟨a, b, h⟩
  · exact .inl h
  · exact .inr ⟨a, b, by rw [h, List.concat_eq_append]⟩
theorem told_ne {prog : Program} {w : World} {A : Around} {E : Value → Shared → Prop} {s : Shared} {h₀ : Heap} {L a b : Addr} {news n₁ : List (Addr × Obj)} {oa ob : Obj} {xs : List Value} {ka kb : Nat} {ds : List Dat} {d : Dat} {Q : Value → Shared → Prop}
    (N : News h₀ L s.heap news) (ma : (a, oa) ∈ news) (ca : oa.cls = .type "list") (da : oa.data = .seq xs.toArray ka) (Da : DatAll n₁ xs (ds ++ [d])) (sa : ∀ p ∈ n₁, p ∈ news)
    (mb : (b, ob) ∈ news) (cb : ob.cls = .type "list") (db : ob.data = .seq #[] kb) (ha : ∀ d' ∈ ds ++ [d], kqdOk 8 d' = true) (hu : A.units + 64 < cLine) (h : Q (.bool true) s) : wpAny (model prog w) A (compareOp .NotEq (.ref a) (.ref b)) Q E s :=
  kqd_ne (n₂ := []) (ys := []) (es := []) N ma ca da Da sa mb cb db .nil (fun _ h => nomatch h) ha (fun _ h => nomatch h) hu (by simpa using h)
theorem told_eq {prog : Program} {w : World} {A : Around} {E : Value → Shared → Prop} {s : Shared} {h₀ : Heap} {L a b : Addr} {news : List (Addr × Obj)} {oa ob : Obj} {ka kb : Nat} {Q : Value → Shared → Prop}
    (N : News h₀ L s.heap news) (ma : (a, oa) ∈ news) (ca : oa.cls = .type "list") (da : oa.data = .seq #[] ka)
    (mb : (b, ob) ∈ news) (cb : ob.cls = .type "list") (db : ob.data = .seq #[] kb) (hu : A.units + 64 < cLine) (h : Q (.bool false) s) : wpAny (model prog w) A (compareOp .NotEq (.ref a) (.ref b)) Q E s :=
  kqd_ne (n₁ := []) (n₂ := []) (xs := []) (ys := []) (ds := []) (es := []) N ma ca da .nil (fun _ h => nomatch h) mb cb db .nil (fun _ h => nomatch h) (fun _ h => nomatch h) (fun _ h => nomatch h) hu (by simpa using h)
theorem wordsC13_3 : True := by
  k_with "call builtin:list.append" => (k_here; (with_reducible show wpAny _ _ (call (Value.builtin _) [Value.ref _, _]) _ _ _); k_dflt (refine' append_K ?k1 ?k2 ?k3 ?_ ?z; (case k1 => k_asm); (case k2 => k_asm); (case k3 => k_upd); (case z => size_fits); k_whole); intro _ _ N'; (try k_sweep); (try simp only [List.push_toArray, List.append_assoc, List.cons_append, List.nil_append] at N'))
  k_with "subscriptTail Name UnaryOp ref int" => (k_here; (with_reducible show wpAny _ _ (subscriptTail _ _ (Value.ref _) (Value.int _ _)) _ _ _); k_dflt (refine' kim_back ?N ?hm ?hc ?hd ?h0 ?h1 ?hf ?hx ?_; (case N => k_asm); (case hm => k_mem); (case hc => rfl); (case hd => rfl); (case hx => exact last_at _ _); (case h0 => decide); (case h1 => (rw [List.length_append, List.length_singleton]; (first | lia | omega))); (case hf => decide); k_whole))
  k_with "subscriptTail" => (k_here; (with_reducible show wpAny _ _ (subscriptTail _ _ (Value.ref _) (Value.int _ _)) _ _ _); k_dflt (refine' kim_tup ?N ?hm ?hc ?hd ?hlo ?hhi ?hj ?hx ?_; (case N => k_asm); (case hm => first | k_mem | (repeat (first | assumption | refine List.Mem.tail _ ?_))); (case hc => rfl); (case hd => rfl); (case hlo => decide); (case hhi => decide); (case hj => rfl); (case hx => rfl); k_whole))
  k_with "compareOp NotEq ref ref" => (k_here; k_dflt (refine' told_ne ?N ?ma ?ca ?da ?Da (fun _ h => h) ?mb ?cb ?db ?ha ?hu ?_; (case N => k_asm); (case ma => k_mem); (case ca => rfl); (case da => rfl); (case mb => k_mem); (case cb => rfl); (case db => rfl); (case Da => exact DatAll.append ((‹DatAll _ _ (List.map opD _)›).mono fun p hp => by (repeat (first | exact hp | refine List.Mem.tail _ ?_))) (.one (.tuple (by k_mem) (.cons (.str _ _) (.cons (.int _ _) (.cons (.int _ _) (.cons (.int _ _) (.cons (.int _ _) .nil)))))))); (case ha => (intro d hd; rcases List.mem_append.mp hd with hd | hd; (exact (‹∀ d ∈ List.map opD _, kqdOk 8 d = true›) d hd); (rw [List.mem_singleton.mp hd]; exact kqdOk_op (by decide +kernel)))); (case hu => ((try dsimp only [A9]); ktr_units)); k_whole))
  k_with "compareOp NotEq ref ref" => (k_here; k_dflt (refine' told_ne ?N ?ma ?ca ?da ?Da (fun _ h => h) ?mb ?cb ?db ?ha ?hu ?_; (case N => k_asm); (case Da => exact (‹DatAll _ _ (List.map opD _ ++ [_])›).mono fun p hp => by (repeat (first | exact hp | refine List.Mem.tail _ ?_))); (case ha => assumption); (case ma => k_mem); (case ca => rfl); (case da => rfl); (case mb => k_mem); (case cb => rfl); (case db => rfl); (case hu => ((try dsimp only [A9]); ktr_units)); k_whole))
  k_with "compareOp NotEq ref ref" => (k_here; k_dflt (refine' told_eq ?N ?ma ?ca ?da ?mb ?cb ?db ?hu ?_; (case N => k_asm); (case ma => k_mem); (case ca => rfl); (case da => rfl); (case mb => k_mem); (case cb => rfl); (case db => rfl); (case hu => ((try dsimp only [A9]); ktr_units)); k_whole))
  k_with "call builtin:list.pop" => (k_here; (with_reducible show wpAny _ _ (call (Value.builtin _) [Value.ref _]) _ _ _); k_dflt (refine' kl_pop ?F ?N (kpa_last _ _) ?U ?z ?_; (case F => k_asm); (case N => k_asm); (case U => k_upd); (case z => (rw [PySem.sizeLine_eq]; show (_ ++ [_]).length ≤ _; rw [List.length_append, List.length_singleton]; (first | lia | omega))); k_whole); intro _ _ _; (try k_sweep))
  k_with "spliced" => (k_here; (with_reducible show wpAny _ _ (spliced (backTo _ (starEach (_ :: _) _))) _ _ _); k_dflt (refine' args_pure (g := sg) (d := sd) (o := so) ?w8a ?w8F ?w8p ?_; (case w8a => exact rfl); (case w8F => k_asm); (case w8p => exact rfl); k_whole); (dsimp only [PVK, List.cons_append, List.nil_append]); intros)
  k_with "same" => (repeat (first | with_reducible exact sameE | ((with_reducible refine kstJ ?_ ?_ ?_); rfl; rfl) | ((with_reducible refine updJ ?_ ?_); rfl) | ((with_reducible refine upLJ ?_ ?_); rfl)))
  k_with "storeName" => (k_here; k_dflt (first | (refine' storeJ (g := sg) (d := sd) (o := so) ?F ?N ?_ ?a ?b; (case F => k_asm); (case N => k_asm); (case a => rfl); (case b => rfl); k_whole; intro _ _ _ _ _ _) | (refine' storeV (g := sg) (d := sd) (o := so) ?F ?N ?_ ?a ?b; (case F => k_asm); (case N => k_asm); (case a => rfl); (case b => rfl); k_whole; intro _ _ _ _)); (try k_sweep))
  k_with "execs cons" => (k_here; (with_reducible show wpAny _ _ (execs (Stmt.If _ _ _ _ :: _) _) _ _ _); k_dflt (first | (refine' if_yes (g := sg) (d := sd) (o := so) ?w9F ?w9p ?w9P ?_ ?w9a ?w9b; (case w9F => k_asm); (case w9p => exact rfl); (case w9P => first | (first | lia | omega) | (first | exact rfl | assumption | exact ⟨by first | (first | lia | omega) | assumption, by first | exact rfl | assumption | (first | lia | omega)⟩)); (case w9a => exact rfl); (case w9b => first | dsimp only [List.cons_append, List.nil_append] | exact rfl); k_whole; intro _) | (refine' if_no (g := sg) (d := sd) (o := so) ?w9F ?w9p ?w9P ?_ ?w9a ?w9b; (case w9F => k_asm); (case w9p => exact rfl); (case w9P => first | (first | lia | omega) | (first | exact rfl | assumption | exact Or.inl (by first | (first | lia | omega) | assumption | exact rfl) | exact Or.inr (by first | (first | lia | omega) | assumption | exact rfl))); (case w9a => exact rfl); (case w9b => first | dsimp only [List.cons_append, List.nil_append] | exact rfl); k_whole; intro _)))
  k_with "execs cons" => (k_here; (with_reducible show wpAny _ _ (execs (Stmt.Assign [Expr.Name _ _] _ _ :: _) _) _ _ _); k_dflt (refine' as_int (g := sg) (d := sd) (o := so) ?w9F ?w9N ?w9p ?_ ?w9a ?w9b ?w9c; (case w9F => k_asm); (case w9N => k_asm); (case w9p => exact rfl); (case w9a => exact rfl); (case w9b => exact rfl); (case w9c => exact rfl); k_whole; intro _ _ _ _ _ _; (try k_sweep)))
  k_with "execs cons" => (k_here; (with_reducible show wpAny _ _ (execs (Stmt.Expr (Expr.Call (Expr.Attribute (Expr.Name _ _) _ _) [_] [] _) _ :: _) _) _ _ _); first | ((with_reducible show wpAny _ _ (execs (Stmt.Expr (Expr.Call _ [Expr.Tuple _ _ _] _ _) _ :: _) _) _ _ _); k_dflt (refine' app_tup (g := sg) (d := sd) (o := so) ?w5F ?w5N ?w5m ?w5q ?w5p ?w5U ?w5z ?w5v ?_ ?w5k ?w5x ?w5e ?w5i ?w5s; (case w5q => exact rfl); (case w5F => k_asm); (case w5N => k_asm); (case w5m => exact rfl); (case w5p => exact rfl); (case w5U => (intro _; k_upd)); (case w5z => first | exact Nat.le_of_ble_eq_true rfl | lia | omega | (simp only [List.length_append, List.length_cons, List.length_nil]; first | lia | omega)); (case w5v => exact Nat.le_of_ble_eq_true rfl); (case w5k => exact rfl); (case w5x => exact rfl); (case w5e => exact rfl); (case w5i => exact rfl); (case w5s => exact rfl); k_whole; intro _ _ _ _ _ w5n w5l; (try dsimp only [valw] at w5n); (try k_lt w5l))) | ((fail_if_success (with_reducible show wpAny _ _ (execs (Stmt.Expr (Expr.Call _ [Expr.Tuple _ _ _] _ _) _ :: _) _) _ _ _)); k_dflt (first | (refine' app_v (g := sg) (d := sd) (o := so) ?w5F ?w5N ?w5m ?w5q ?w5p ?w5U ?w5z ?_ ?w5k ?w5x ?w5t ?w5e ?w5i ?w5s; (case w5q => exact rfl); (case w5F => k_asm); (case w5N => k_asm); (case w5m => exact rfl); (case w5p => exact rfl); (case w5U => k_upd); (case w5z => first | exact Nat.le_of_ble_eq_true rfl | lia | omega | (simp only [List.length_append, List.length_cons, List.length_nil]; first | lia | omega)); (case w5k => exact rfl); (case w5x => exact rfl); (case w5t => exact rfl); (case w5e => exact rfl); (case w5i => exact rfl); (case w5s => exact rfl); k_whole; intro _ _ _ w5n; (try dsimp only at w5n)) | (refine' app_i (g := sg) (d := sd) (o := so) ?w5F ?w5N ?w5m ?w5q ?w5p ?w5U ?w5z ?_ ?w5k ?w5x ?w5t ?w5e ?w5i ?w5s; (case w5q => exact rfl); (case w5F => k_asm); (case w5N => k_asm); (case w5m => exact rfl); (case w5p => exact rfl); (case w5U => (intro _; k_upd)); (case w5z => first | exact Nat.le_of_ble_eq_true rfl | lia | omega | (simp only [List.length_append, List.length_cons, List.length_nil]; first | lia | omega)); (case w5k => exact rfl); (case w5x => exact rfl); (case w5t => exact rfl); (case w5e => exact rfl); (case w5i => exact rfl); (case w5s => exact rfl); k_whole; intro _ _ _ _ w5n; (try dsimp only at w5n)))); (try k_sweep))
  k_with "assignInOrder" => (k_here; k_dflt (first | (refine' asg_names (g := sg) (d := sd) (o := so) ?w6F ?w6N ?w6p ?w6l ?_ ?w6a ?w6k; (case w6F => k_asm); (case w6N => k_asm); (case w6p => exact rfl); (case w6l => exact rfl); (case w6a => exact rfl); (case w6k => exact rfl); k_whole; intro _ _ _ _ _) | (refine' asg_bind (g := sg) (d := sd) (o := so) ?w6k ?w6F ?w6N ?w6l ?_ ?w6a; (case w6F => k_asm); (case w6N => k_asm); (case w6l => exact rfl); (case w6a => exact rfl); (case w6k => exact rfl); k_whole; intro _ _ _ _ _)); (try k_sweep))
  trivial
section
variable {w : World} {base : Heap} {news : News0}
set_option maxRecDepth 100000
set_option maxHeartbeats 8000000
theorem c_law_codes (x y : Str) (tx ty : Tok) (hx : x.length ≤ 20) (hy : y.length ≤ 64) (lk : Addr) (vk : List Value) (nk : Nat) (ks : List (Int × Int)) (hm : (lk, listOf vk.toArray nk) ∈ news) (hD : DatAll news vk (kdL ks)) (hlen : ks.length ≤ 21) : Con w 12 base news (call (.ref 353) [.str x tx, .str y ty, .ref lk])
    (fun G => ∀ (r : Addr) (vt : List Value) (n : Nat) (rest : News0), (∀ p ∈ news, p ∈ rest) → (∀ p ∈ rest, p.1 ≠ r) → DatAll rest vt ((cdF (x.length : Int) (ks ++ [((x.length : Int), (y.length : Int))])).1.map opD) →
      (∀ d ∈ (cdF (x.length : Int) (ks ++ [((x.length : Int), (y.length : Int))])).1.map opD, kqdOk 8 d = true) → G (.ref r) ((r, listOf vt.toArray n) :: rest)) := by
  refine Con.mk2 ?_
  intro p loose mean mg mb dp un gd cn cns cg cc cm a ccd cl outer A₀ h₀ L m sh sg sd sk so Q E B F X N T hd hu hret
  refine wpAny_call ?_
  k_dflt k_enter
  have hMk := kstMark
  (rename Fr _ _ _ _ => lFe); refine fr_let lFe ?_; clear lFe; intro me lFe
  refine let_A ?_
  intro A9
  have hvk : vk.length = ks.length := by rw [hD.length]; simp [kdL]
  k_steps
  (k_here; (rename Fr _ _ _ _ => lF'); (k_dflt (with_unfolding_all refine' For_turns lF' ?_; k_whole)))
  k_steps
  rename Fr _ _ _ _ => lF'
  rename News _ _ _ _ => lN'
  k_dflt (refine' kmk_add_lit (zs := vk ++ [_]) lF' lN' ⟨_, (lN' _ (.tail _ (.tail _ (.tail _ hm)))).1, rfl, _, rfl⟩ ⟨_, (lN' _ (.head _)).1, rfl, _, rfl⟩ (by rfl) ?_ ?hz)
  case hz => show vk.length + 1 ≤ sizeLine; rw [PySem.sizeLine_eq]; exact dn20 0x3efb6000000000001000000b6f341e00076840 (by k_ne) hlen hvk
  intro ax h8 F8 N8 hax
  clear lF' lN'
  rename_i lt _ l1a _ _ _ _ _ _ _ _ _ _ _ _ T0 _ l1b ld _ l1c
  obtain ⟨oT, ta0, tb0, hoT, N8'⟩ : ∃ (o : Obj) (ta tb : Tok), o = ({ cls := .type "tuple", data := .seq #[.int (x.length : Int) ta, .int (y.length : Int) tb] } : Obj) ∧ News _ _ _ ((ax, listOf (vk ++ [Value.ref T0]).toArray 0) :: (ld, _) :: (T0, o) :: (lt, listOf #[] 0) :: news) := ⟨_, _, _, rfl, N8⟩
  have hlt0 : ∀ p ∈ (T0, oT) :: news, p.1 ≠ lt := by
    intro p hp
    rcases List.mem_cons.mp hp with rfl | hp
    · k_ne
    · exact Nat.ne_of_lt (l1a p hp)
  have hDD : DatAll ((T0, oT) :: news) (vk ++ [Value.ref T0]) (kdL (ks ++ [((x.length : Int), (y.length : Int))])) := by
    rw [kdL, List.map_append]
    exact DatAll.append (hD.mono fun p hp => .tail _ hp) (.one (.tuple (vs := [.int _ ta0, .int _ tb0]) (by rw [hoT]; exact .head _) (.cons (.int _ _) (.cons (.int _ _) .nil))))
  k_dflt (with_unfolding_all refine' kj_list (vs := vk ++ [Value.ref T0]) (lo := listOf (vk ++ [Value.ref T0]).toArray 0) (σ := (List Value × Nat) × (Int × Tok) × (Int × Tok) × List (Addr × Obj)) (fun c => (lt, listOf c.1.1.toArray c.1.2) :: (ax, listOf (vk ++ [Value.ref T0]).toArray 0) :: c.2.2.2) (fun c => [("i", .int c.2.1.1 c.2.1.2), ("j", .int c.2.2.1.1 c.2.2.1.2)]) ["k", "m", "before"] (fun i c => ∃ cs, cdF (x.length : Int) ((ks ++ [((x.length : Int), (y.length : Int))]).take i) = (cs, c.2.1.1, c.2.2.1.1) ∧ DatAll c.2.2.2 c.1.1 (cs.map opD) ∧ (∀ d ∈ cs.map opD, kqdOk 8 d = true) ∧ c.1.1.length ≤ 2 * i ∧ (∀ p ∈ (T0, oT) :: news, p ∈ c.2.2.2) ∧ (∀ p ∈ c.2.2.2, p.1 ≠ lt)) (([], _), (0, _), (0, _), (T0, oT) :: news) (by rfl) (fun c => .tail _ (.head _)) (by rfl) (by rfl) F8 (fun p hp => N8' p ?hn) ?hk ?hp ?turn ?done)
  case hn =>
    rcases List.mem_cons.mp hp with rfl | hp
    · k_mem
    rcases List.mem_cons.mp hp with rfl | hp
    · k_mem
    exact .tail _ (.tail _ (by rcases List.mem_cons.mp hp with rfl | hp; exact .head _; exact .tail _ (.tail _ hp)))
  case hk =>
    refine fall_cons (by rfl) ?_
    refine fall_cons (by rfl) ?_
    exact fun _ h => nomatch h
  case hp => exact ⟨[], rfl, by exact DatAll.nil, (by intro d hd; cases hd), Nat.zero_le _, fun _ h => h, fun p hp => hlt0 p hp⟩
  case turn =>
    intro I oI c8
    refine match c8 with | ⟨⟨vs9, n9⟩, ⟨i9, ti9⟩, ⟨j9, tj9⟩, rest9⟩ => ?_
    intro i v9 u9 h9 tk9 hv9 hoff hP18 F9 N9
    refine opqG fun G8 hG8 => ?_
    obtain ⟨cs, hC9, hD9, hok9, hvl9, hsub9, hne9⟩ := hP18
    refine hG8 ?_
    clear hG8 G8
    clear F8 N8
    obtain ⟨T, nT, t1, t2, k9, m9, rfl, hps9, hT9⟩ := pair_at hDD hv9
    dsimp only at hC9 hD9 hvl9 hsub9 hne9 F9 N9 hoff
    refine fr_let F9 ?_
    clear F9
    intro mf9 F9
    have hi9 : i < 22 := by
      have := (List.getElem?_eq_some_iff.mp hv9).1
      rw [List.length_append, List.length_singleton] at this
      exact dn30 0x3efbede20b7bcd042e00076840 (by k_ne) hlen hvk this
    have hI1 := hoff _ (.head _)
    have hI2 := hoff _ (.tail _ (.head _))
    have hI4 : ∀ p ∈ rest9, p.1 ≠ I := fun p hp => hoff p (.tail _ (.tail _ hp))
    have hI5 := Ne.symm hI1
    have hTup := isTup_of (N := N9) (.tail _ (.tail _ (.tail _ (hsub9 _ hT9)))) rfl rfl
    have hlax : lt ≠ ax := Nat.ne_of_lt (hax _ (.tail _ (.tail _ (.head _))))
    have hlax2 := Ne.symm hlax
    dsimp only at hI1 hI2 hI5
    have hnext : ∀ c', cdStep (x.length : Int) (cs, i9, j9) (k9, m9) = c' → cdF (x.length : Int) ((ks ++ [((x.length : Int), (y.length : Int))]).take (i + 1)) = c' := fun c' e => by rw [hps9, cdF_snoc, hC9, e]
    repeat' ((fail_if_success (with_reducible show wpAny _ _ (execs _ _) _ _ _)); first | walk1 | (dsimp only; walk1))
    rename Fr _ _ _ _ => FA
    rename News _ _ _ _ => NA
    refine opqQ fun RR hRR => ?_
    refine cutJ (fun c : (List Value × Nat) × List (Addr × Obj) × List Op5 => (I, oI) :: (lt, listOf c.1.1.toArray c.1.2) :: (ax, listOf (vk ++ [Value.ref T0]).toArray 0) :: c.2.1) (fun c => c.2.2 = cd1 (cs, i9, j9) (k9, m9) ∧ DatAll c.2.1 c.1.1 (c.2.2.map opD) ∧ (∀ d ∈ c.2.2.map opD, kqdOk 8 d = true) ∧ c.1.1.length ≤ 2 * i + 1 ∧ (∀ p ∈ (T0, oT) :: news, p ∈ c.2.1) ∧ (∀ p ∈ c.2.1, p.1 ≠ lt) ∧ (∀ p ∈ c.2.1, p.1 ≠ I)) FA ?st1 ?st2
    case st1 =>
      intro R hR _
      by_cases hik : i9 < k9
      · by_cases hjm : j9 < m9
        · skip
          k_steps
          rename Fr _ _ _ _ => F7
          rename News _ _ _ _ => N7
          refine' hR ((vs9 ++ [Value.ref ?D1a], _), (?D1a, ?o1a) :: rest9, cs ++ [(Str.ofString "replace", i9, k9, j9, m9)]) _ _ F7 (news_sub N7 ?hn) ⟨?q1, ?q2, ?q3, ?q4, ?q5, ?q6, ?q7⟩
          case hn =>
            refine fall_cons (by k_mem) ?_
            refine fall_cons (by k_mem) ?_
            refine fall_cons (by k_mem) ?_
            refine fall_cons (by k_mem) ?_
            exact fun p hp => by (repeat (first | exact hp | refine List.Mem.tail _ ?_))
          case q1 => (show _ = cd1 _ _; unfold cd1; dsimp only; rw [if_pos ⟨hik, hjm⟩])
          case q2 =>
            show DatAll _ _ (List.map opD _)
            rw [List.map_append]
            exact DatAll.append (hD9.mono fun p hp => .tail _ hp) (.one (.tuple (vs := [.str _ _, .int _ _, .int _ _, .int _ _, .int _ _]) (by k_mem) (.cons (.str _ _) (.cons (.int _ _) (.cons (.int _ _) (.cons (.int _ _) (.cons (.int _ _) .nil)))))))
          case q3 => exact kqdOk_map hok9 (by intro o ho; simp only [List.mem_cons, List.not_mem_nil, or_false] at ho; subst ho; exact strOk_rep)
          case q4 => dsimp only; simp only [List.length_append, List.length_cons, List.length_nil]; exact dn20 0x3edaf37104ebef34c036c41380 (by k_ne) hvl9
          case q5 => exact fun p hp => .tail _ (hsub9 p hp)
          case q6 => exact fall_cons (by k_ne) hne9
          case q7 => exact fall_cons (by k_ne) hI4
        · skip
          k_steps
          rename Fr _ _ _ _ => F7
          rename News _ _ _ _ => N7
          refine' hR ((vs9 ++ [Value.ref ?D1b], _), (?D1b, ?o1b) :: rest9, cs ++ [(Str.ofString "delete", i9, k9, j9, m9)]) _ _ F7 (news_sub N7 ?hn) ⟨?q1, ?q2, ?q3, ?q4, ?q5, ?q6, ?q7⟩
          case hn =>
            refine fall_cons (by k_mem) ?_
            refine fall_cons (by k_mem) ?_
            refine fall_cons (by k_mem) ?_
            refine fall_cons (by k_mem) ?_
            exact fun p hp => by (repeat (first | exact hp | refine List.Mem.tail _ ?_))
          case q1 => (show _ = cd1 _ _; unfold cd1; dsimp only; rw [if_neg fun h => hjm h.2, if_pos hik])
          case q2 =>
            show DatAll _ _ (List.map opD _)
            rw [List.map_append]
            exact DatAll.append (hD9.mono fun p hp => .tail _ hp) (.one (.tuple (vs := [.str _ _, .int _ _, .int _ _, .int _ _, .int _ _]) (by k_mem) (.cons (.str _ _) (.cons (.int _ _) (.cons (.int _ _) (.cons (.int _ _) (.cons (.int _ _) .nil)))))))
          case q3 => exact kqdOk_map hok9 (by intro o ho; simp only [List.mem_cons, List.not_mem_nil, or_false] at ho; subst ho; exact strOk_del)
          case q4 => dsimp only; simp only [List.length_append, List.length_cons, List.length_nil]; exact dn20 0x3edaf37104ebef34c036c41380 (by k_ne) hvl9
          case q5 => exact fun p hp => .tail _ (hsub9 p hp)
          case q6 => exact fall_cons (by k_ne) hne9
          case q7 => exact fall_cons (by k_ne) hI4
      · by_cases hjm : j9 < m9
        · skip
          k_steps
          rename Fr _ _ _ _ => F7
          rename News _ _ _ _ => N7
          refine' hR ((vs9 ++ [Value.ref ?D1c], _), (?D1c, ?o1c) :: rest9, cs ++ [(Str.ofString "insert", i9, k9, j9, m9)]) _ _ F7 (news_sub N7 ?hn) ⟨?q1, ?q2, ?q3, ?q4, ?q5, ?q6, ?q7⟩
          case hn =>
            refine fall_cons (by k_mem) ?_
            refine fall_cons (by k_mem) ?_
            refine fall_cons (by k_mem) ?_
            refine fall_cons (by k_mem) ?_
            exact fun p hp => by (repeat (first | exact hp | refine List.Mem.tail _ ?_))
          case q1 => (show _ = cd1 _ _; unfold cd1; dsimp only; rw [if_neg fun h => hik h.1, if_neg hik, if_pos hjm])
          case q2 =>
            show DatAll _ _ (List.map opD _)
            rw [List.map_append]
            exact DatAll.append (hD9.mono fun p hp => .tail _ hp) (.one (.tuple (vs := [.str _ _, .int _ _, .int _ _, .int _ _, .int _ _]) (by k_mem) (.cons (.str _ _) (.cons (.int _ _) (.cons (.int _ _) (.cons (.int _ _) (.cons (.int _ _) .nil)))))))
          case q3 => exact kqdOk_map hok9 (by intro o ho; simp only [List.mem_cons, List.not_mem_nil, or_false] at ho; subst ho; exact strOk_ins)
          case q4 => dsimp only; simp only [List.length_append, List.length_cons, List.length_nil]; exact dn20 0x3edaf37104ebef34c036c41380 (by k_ne) hvl9
          case q5 => exact fun p hp => .tail _ (hsub9 p hp)
          case q6 => exact fall_cons (by k_ne) hne9
          case q7 => exact fall_cons (by k_ne) hI4
        · k_steps
          exact hR ((vs9, n9), rest9, cs) _ _ FA NA ⟨(by unfold cd1; dsimp only; rw [if_neg fun h => hik h.1, if_neg hik, if_neg hjm]), hD9, hok9, Nat.le_succ_of_le hvl9, hsub9, hne9, hI4⟩
    case st2 =>
      intro c8
      refine match c8 with | ⟨⟨vs1, n1⟩, rest1, cs1⟩ => ?_
      intro h1 tk1 F1 N1 hP18
      refine opqG fun G8 hG8 => ?_
      obtain ⟨hcs, hD1, hok1, hvl1, hsub1, hne1, hI41⟩ := hP18
      refine hG8 ?_
      clear hG8 G8
      clear FA NA hD9 hok9 hvl9 hsub9 hne9 hI4
      dsimp only at F1 N1 hcs hD1 hok1 hvl1 hsub1 hne1 hI41
      by_cases hkn : k9 < (x.length : Int)
      · rcases snoc_cases cs1 with rfl | ⟨es, o9, rfl⟩
        · cases hD1
          k_steps
          rename Fr _ _ _ _ => F7
          rename News _ _ _ _ => N7
          refine hRR _ _ ?_; (show UnrEndW _ _ _ _ _ _); refine' kj_end (([] ++ [Value.ref ?D1w7], _), (k9 + 1, _), (m9 + 1, _), (?D1w7, ?oD1w7) :: rest1) F7 N7 ?hI ?hn ?off ?hk ?hr ⟨[] ++ [(Str.ofString "equal", k9, k9 + 1, m9, m9 + 1)], ?q1, ?q2, ?q3, ?q4, ?q5, ?q6⟩
          case hk =>
            refine fall_cons (by rfl) ?_
            refine fall_cons (by rfl) ?_
            exact fun _ h => nomatch h
          case hn =>
            intro p hp
            rcases List.mem_cons.mp hp with rfl | hp
            · k_mem
            rcases List.mem_cons.mp hp with rfl | hp
            · k_mem
            rcases List.mem_cons.mp hp with rfl | hp
            · k_mem
            (repeat (first | exact hp | refine List.Mem.tail _ ?_))
          case hI => k_mem
          case off =>
            refine fall_cons (by exact hI1) ?_
            refine fall_cons (by exact hI2) ?_
            refine fall_cons (by k_ne) ?_
            exact fun p hp => hI41 p hp
          case hr =>
            refine sameJ ?_
            k_extra "same"
          case q1 => exact hnext _ (by
            show cdStep _ _ _ = _
            rw [cdStep_of hcs]
            dsimp only
            rw [if_pos hkn]
            rfl)
          case q5 => exact fun p hp => .tail _ (hsub1 p hp)
          case q6 =>
            refine fall_cons (by k_ne) ?_
            exact fun p hp => hne1 p hp
          case q2 =>
            show DatAll _ _ (List.map opD _)
            rw [List.map_append]
            exact DatAll.append (.nil) (.cons (.tuple (vs := [.str _ _, .int _ _, .int _ _, .int _ _, .int _ _]) (by k_mem) (.cons (.str _ _) (.cons (.int _ _) (.cons (.int _ _) (.cons (.int _ _) (.cons (.int _ _) .nil)))))) .nil)
          case q3 => exact kqdOk_map (by intro d hd; cases hd) (by intro o ho; simp only [List.mem_cons, List.not_mem_nil, or_false] at ho; subst ho; exact strOk_equ)
          case q4 => dsimp only; simp only [List.length_append, List.length_cons, List.length_nil]; exact dn10 0x36c6f3403afbcd30c (by k_ne)
        · rw [List.map_append] at hD1 hok1
          obtain ⟨ws9, uL, rfl, hD8, hDu⟩ := dat_snoc (ds := es.map opD) (d := opD o9) hD1
          obtain ⟨TL, nL, t30, t31, t32, t33, t34, rfl, hTL⟩ := op_at hDu
          have hD1' : DatAll rest1 (ws9 ++ [Value.ref TL]) (List.map opD es ++ [opD o9]) := hD1
          have hD1'' : DatAll rest1 (ws9 ++ [Value.ref TL]) (List.map opD (es ++ [o9])) := by rw [List.map_append]; exact hD1
          have hok1'' : ∀ d ∈ List.map opD (es ++ [o9]), kqdOk 8 d = true := by rw [List.map_append]; exact hok1
          have hok8 : ∀ d ∈ List.map opD es, kqdOk 8 d = true := fun d hd => hok1 d (List.mem_append_left _ hd)
          have hok7 : ∀ d ∈ List.map opD es ++ [opD o9], kqdOk 8 d = true := hok1
          have hvl8 : (ws9 ++ [Value.ref TL]).length = ws9.length + 1 := by simp
          by_cases ho9 : (o9.1 == Str.ofString "equal") = true
          · k_steps
            rename Fr _ _ _ _ => F7
            rename News _ _ _ _ => N7
            refine hRR _ _ ?_; (show UnrEndW _ _ _ _ _ _); refine' kj_end ((ws9 ++ [Value.ref ?D1w8], _), (k9 + 1, _), (m9 + 1, _), (?D1w8, ?oD1w8) :: rest1) F7 N7 ?hI ?hn ?off ?hk ?hr ⟨es ++ [(Str.ofString "equal", o9.2.1, k9 + 1, o9.2.2.2.1, m9 + 1)], ?q1, ?q2, ?q3, ?q4, ?q5, ?q6⟩
            case hk =>
              refine fall_cons (by rfl) ?_
              refine fall_cons (by rfl) ?_
              exact fun _ h => nomatch h
            case hn =>
              intro p hp
              rcases List.mem_cons.mp hp with rfl | hp
              · k_mem
              rcases List.mem_cons.mp hp with rfl | hp
              · k_mem
              rcases List.mem_cons.mp hp with rfl | hp
              · k_mem
              (repeat (first | exact hp | refine List.Mem.tail _ ?_))
            case hI => k_mem
            case off =>
              refine fall_cons (by exact hI1) ?_
              refine fall_cons (by exact hI2) ?_
              refine fall_cons (by k_ne) ?_
              exact fun p hp => hI41 p hp
            case hr =>
              refine sameJ ?_
              k_extra "same"
            case q1 => exact hnext _ (by
              show cdStep _ _ _ = _
              rw [cdStep_of hcs]
              dsimp only
              rw [if_pos hkn, List.getLast?_concat]
              dsimp only
              rw [if_pos ho9, List.dropLast_concat])
            case q5 => exact fun p hp => .tail _ (hsub1 p hp)
            case q6 =>
              refine fall_cons (by k_ne) ?_
              exact fun p hp => hne1 p hp
            case q2 =>
              show DatAll _ _ (List.map opD _)
              rw [List.map_append]
              exact DatAll.append (hD8.mono fun p hp => .tail _ (hp)) (.cons (.tuple (vs := [.str _ _, .int _ _, .int _ _, .int _ _, .int _ _]) (by k_mem) (.cons (.str _ _) (.cons (.int _ _) (.cons (.int _ _) (.cons (.int _ _) (.cons (.int _ _) .nil)))))) .nil)
            case q3 => exact kqdOk_map hok8 (by intro o ho; simp only [List.mem_cons, List.not_mem_nil, or_false] at ho; subst ho; exact strOk_equ)
            case q4 => dsimp only; simp only [List.length_append, List.length_cons, List.length_nil]; exact dn30 0x3efb6c6f3413afbcd302e2f342036bcdc41380 (by k_ne) hvl1 hvl8
          · have ho8 : (o9.1 == Str.ofString "equal") = false := Bool.eq_false_iff.mpr ho9
            k_steps
            rename Fr _ _ _ _ => F7
            rename News _ _ _ _ => N7
            refine hRR _ _ ?_; (show UnrEndW _ _ _ _ _ _); refine' kj_end (((ws9 ++ [Value.ref TL]) ++ [Value.ref ?D1w9], _), (k9 + 1, _), (m9 + 1, _), (?D1w9, ?oD1w9) :: rest1) F7 N7 ?hI ?hn ?off ?hk ?hr ⟨es ++ [o9] ++ [(Str.ofString "equal", k9, k9 + 1, m9, m9 + 1)], ?q1, ?q2, ?q3, ?q4, ?q5, ?q6⟩
            case hk =>
              refine fall_cons (by rfl) ?_
              refine fall_cons (by rfl) ?_
              exact fun _ h => nomatch h
            case hn =>
              intro p hp
              rcases List.mem_cons.mp hp with rfl | hp
              · k_mem
              rcases List.mem_cons.mp hp with rfl | hp
              · k_mem
              rcases List.mem_cons.mp hp with rfl | hp
              · k_mem
              (repeat (first | exact hp | refine List.Mem.tail _ ?_))
            case hI => k_mem
            case off =>
              refine fall_cons (by exact hI1) ?_
              refine fall_cons (by exact hI2) ?_
              refine fall_cons (by k_ne) ?_
              exact fun p hp => hI41 p hp
            case hr =>
              refine sameJ ?_
              k_extra "same"
            case q1 => exact hnext _ (by
              show cdStep _ _ _ = _
              rw [cdStep_of hcs]
              dsimp only
              rw [if_pos hkn, List.getLast?_concat]
              dsimp only
              rw [if_neg ho9])
            case q5 => exact fun p hp => .tail _ (hsub1 p hp)
            case q6 =>
              refine fall_cons (by k_ne) ?_
              exact fun p hp => hne1 p hp
            case q2 =>
              show DatAll _ ((ws9 ++ [Value.ref TL]) ++ [_]) (List.map opD _)
              rw [List.map_append]
              exact DatAll.append (hD1''.mono fun p hp => .tail _ (hp)) (.cons (.tuple (vs := [.str _ _, .int _ _, .int _ _, .int _ _, .int _ _]) (by k_mem) (.cons (.str _ _) (.cons (.int _ _) (.cons (.int _ _) (.cons (.int _ _) (.cons (.int _ _) .nil)))))) .nil)
            case q3 => exact kqdOk_map hok1'' (by intro o ho; simp only [List.mem_cons, List.not_mem_nil, or_false] at ho; subst ho; exact strOk_equ)
            case q4 => dsimp only; simp only [List.length_append, List.length_cons, List.length_nil]; exact dn30 0x3efb6c6f3413afbcd32fbcd302e2f342036bcdc41380 (by k_ne) hvl1 hvl8
      · k_steps
        rename Fr _ _ _ _ => F7
        rename News _ _ _ _ => N7
        refine hRR _ _ ?_; (show UnrEndW _ _ _ _ _ _); refine' kj_end ((vs1, _), (k9 + 1, _), (m9 + 1, _), rest1) F7 N7 ?hI ?hn ?off ?hk ?hr ⟨cs1, ?q1, ?q2, ?q3, ?q4, ?q5, ?q6⟩
        case hk =>
          refine fall_cons (by rfl) ?_
          refine fall_cons (by rfl) ?_
          exact fun _ h => nomatch h
        case hn =>
          intro p hp
          rcases List.mem_cons.mp hp with rfl | hp
          · k_mem
          rcases List.mem_cons.mp hp with rfl | hp
          · k_mem
          (repeat (first | exact hp | refine List.Mem.tail _ ?_))
        case hI => k_mem
        case off =>
          refine fall_cons (by exact hI1) ?_
          refine fall_cons (by exact hI2) ?_
          exact fun p hp => hI41 p hp
        case hr =>
          refine sameJ ?_
          k_extra "same"
        case q1 => exact hnext _ (by
          show cdStep _ _ _ = _
          rw [cdStep_of hcs]
          dsimp only
          rw [if_neg hkn])
        case q5 => exact fun p hp => hsub1 p hp
        case q6 =>
          intro p hp
          exact hne1 p hp
        case q2 => exact hD1
        case q3 => exact hok1
        case q4 => dsimp only; exact dn20 0x3edb1bcd04e036bcdc41380 (by k_ne) hvl1
  case done =>
    intro c8
    refine match c8 with | ⟨⟨vs9, n9⟩, ⟨i9, ti9⟩, ⟨j9, tj9⟩, rest9⟩ => ?_
    intro u9 h9 tk9 hP18 F9 N9
    refine opqG fun G8 hG8 => ?_
    obtain ⟨cs, hC9, hD9, hok9, hvl9, hsub9, hne9⟩ := hP18
    refine hG8 ?_
    clear hG8 G8
    clear F8 N8
    dsimp only at hC9 hD9 hvl9 hsub9 hne9 F9 N9
    refine fr_let F9 ?_
    clear F9
    intro mf9 F9
    have hall : (ks ++ [((x.length : Int), (y.length : Int))]).take (vk ++ [Value.ref T0]).length = ks ++ [((x.length : Int), (y.length : Int))] := List.take_of_length_le (by simp [hvk])
    rw [hall] at hC9
    have hlax : lt ≠ ax := Nat.ne_of_lt (hax _ (.tail _ (.tail _ (.head _))))
    k_steps
    rename_i kF kN _ _
    rw [hC9] at hret
    exact hret _ _ _ ((ax, _) :: rest9) (fun p hp => .tail _ (hsub9 p (.tail _ hp))) (fun p hp => by rcases List.mem_cons.mp hp with rfl | hp; exact (Ne.symm hlax); exact hne9 p hp) (hD9.mono fun p hp => .tail _ hp) hok9 _ _ kF kN
end
end Mine
end
section
open PySem PySem.W PyProof.Rows
namespace Mine
noncomputable def setO (led : Bool) : Obj := { cls := Value.type "set", data := Data.set #[] 0 (SetTable.fresh 0 0 led) }
noncomputable def idxOf (pre : List Nat) (c : Nat) : List Int := (pre.zipIdx.filter fun p => decide (p.1 = c)).map fun p => ((p.2 : Nat) : Int)
theorem idxOf_snoc (pre : List Nat) (x c : Nat) : idxOf (pre ++ [x]) c = if x = c then idxOf pre c ++ [(pre.length : Int)] else idxOf pre c := by
  unfold idxOf
  rw [List.zipIdx_append, List.filter_append, List.map_append]
  by_cases h : x = c
  · rw [if_pos h]; simp [h]
  · rw [if_neg h]; simp [h]
theorem idxOf_nil_of {pre : List Nat} {c : Nat} (h : c ∉ pre) : idxOf pre c = [] := by
  unfold idxOf
  rw [List.map_eq_nil_iff, List.filter_eq_nil_iff]
  intro p hp
  have : p.1 ∈ pre := (List.mem_zipIdx' (x := p.1) (i := p.2) hp).2 ▸ List.getElem_mem _
  intro e
  exact h (of_decide_eq_true e ▸ this)
theorem idxOf_len (pre : List Nat) (c : Nat) : (idxOf pre c).length ≤ pre.length := by
  unfold idxOf
  rw [List.length_map]
  exact Nat.le_trans (List.length_filter_le _ _) (by simp)
theorem sgn_inj {a b : Nat} (h : (⟨#[a]⟩ : Str) = ⟨#[b]⟩) : a = b := by
  have h2 := congrArg (fun z : Str => z.cps.getD 0 0) h
  simpa using h2
theorem valueAt_new {kvs : List (Str × Value)} {k : Str} {v : Value} (h : valueAt kvs k = none) (k' : Str) : valueAt (stored kvs k v) k' = if k' = k then some v else valueAt kvs k' := by
  have hn : kvs.any (fun kv => decide (kv.1 = k)) = false := by
    unfold valueAt at h
    rw [Option.map_eq_none_iff, List.find?_eq_none] at h
    rw [List.any_eq_false]
    exact h
  unfold stored
  rw [hn]
  simp only [Bool.false_eq_true, if_false]
  unfold valueAt
  rw [List.find?_append]
  by_cases e : k' = k
  · subst e
    rw [if_pos rfl]
    have : kvs.find? (fun kv => decide (kv.1 = k')) = none := by
      unfold valueAt at h
      rwa [Option.map_eq_none_iff] at h
    rw [this]; simp
  · rw [if_neg e]
    cases hf : kvs.find? (fun kv => decide (kv.1 = k')) with
    | some x => rfl
    | none =>
      have : ¬ k = k' := fun q => e q.symm
      simp [this]
theorem stored_len {kvs : List (Str × Value)} {k : Str} {v : Value} : (stored kvs k v).length ≤ kvs.length + 1 := by
  unfold stored
  split
  · rw [List.length_map]; exact dn10 0x36bcd000 (by k_ne)
  · rw [List.length_append, List.length_singleton]; exact dn10 0x36bcd02f340 (by k_ne)
structure B2J (news rest : News0) (kvs : List (Str × Value)) (pre : List Nat) : Prop where
  no : ∀ c, c ∉ pre → valueAt kvs ⟨#[c]⟩ = none
  yes : ∀ c, c ∈ pre → ∃ (lc : Addr) (vs : List Value) (n : Nat), valueAt kvs ⟨#[c]⟩ = some (.ref lc) ∧ (lc, listOf vs.toArray n) ∈ rest ∧ IntsAre vs (idxOf pre c) ∧ ∀ p ∈ news, p.1 < lc
  inj : ∀ c c' lc, valueAt kvs ⟨#[c]⟩ = some (.ref lc) → valueAt kvs ⟨#[c']⟩ = some (.ref lc) → c = c'
theorem B2J.weak {news rest : News0} {kvs : List (Str × Value)} {pre : List Nat} (h : B2J news rest kvs pre) : B2J [] rest kvs pre :=
  ⟨h.no, fun c hc => (h.yes c hc).imp fun _ y => y.imp fun _ y => y.imp fun _ y => ⟨y.1, y.2.1, y.2.2.1, fun _ hp => nomatch hp⟩, h.inj⟩
theorem B2J.nil (news rest : News0) : B2J news rest [] [] := ⟨fun _ _ => rfl, (fun _ h => nomatch h), fun _ _ _ h => nomatch h⟩
theorem B2J.more {news rest : News0} {kvs : List (Str × Value)} {pre : List Nat} {c : Nat} {lc : Addr} {vs : List Value} {n' : Nat} {t : Tok} (h : B2J news rest kvs pre) (hc : c ∈ pre) (hv : valueAt kvs ⟨#[c]⟩ = some (.ref lc)) (hi : IntsAre vs (idxOf pre c)) (hl : ∀ p ∈ news, p.1 < lc) :
    B2J news ((lc, listOf (vs ++ [Value.int (pre.length : Int) t]).toArray n') :: rest.filter fun p => decide (p.1 ≠ lc)) kvs (pre ++ [c]) := by
  refine ⟨fun d hd => h.no d fun hm => hd (List.mem_append_left _ hm), fun d hd => ?_, h.inj⟩
  by_cases e : d = c
  · subst e
    refine ⟨lc, _, n', hv, .head _, ?_, hl⟩
    rw [idxOf_snoc, if_pos rfl]
    exact IntsAre.append hi (.cons _ _ .nil)
  · have hd' : d ∈ pre := by
      rcases List.mem_append.mp hd with hd | hd
      · exact hd
      · exact absurd (List.mem_singleton.mp hd) e
    obtain ⟨ld, ws, k, h1, h2, h3, h4⟩ := h.yes d hd'
    refine ⟨ld, ws, k, h1, .tail _ (List.mem_filter.mpr ⟨h2, decide_eq_true fun q => e (h.inj d c lc (q ▸ h1) hv)⟩), ?_, h4⟩
    rw [idxOf_snoc, if_neg (Ne.symm e)]
    exact h3
theorem B2J.fresh {news rest : News0} {kvs : List (Str × Value)} {pre : List Nat} {c : Nat} {lc : Addr} {n' : Nat} {t : Tok} (h : B2J news rest kvs pre) (hc : c ∉ pre) (hl : ∀ p ∈ rest, p.1 < lc) (hnl : ∀ p ∈ news, p.1 < lc) :
    B2J news ((lc, listOf [Value.int (pre.length : Int) t].toArray n') :: rest) (stored kvs ⟨#[c]⟩ (.ref lc)) (pre ++ [c]) := by
  have hno := h.no c hc
  refine ⟨fun d hd => ?_, fun d hd => ?_, fun d d' l h1 h2 => ?_⟩
  · rw [valueAt_new hno, if_neg fun q => hd (by rw [sgn_inj q]; simp)]
    exact h.no d fun hm => hd (List.mem_append_left _ hm)
  · by_cases e : d = c
    · subst e
      refine ⟨lc, _, n', by rw [valueAt_new hno, if_pos rfl], .head _, ?_, hnl⟩
      rw [idxOf_snoc, if_pos rfl, idxOf_nil_of hc]
      exact .cons _ _ .nil
    · have hd' : d ∈ pre := by
        rcases List.mem_append.mp hd with hd | hd
        · exact hd
        · exact absurd (List.mem_singleton.mp hd) e
      obtain ⟨ld, ws, k, h1, h2, h3, h4⟩ := h.yes d hd'
      refine ⟨ld, ws, k, by rw [valueAt_new hno, if_neg fun q => e (sgn_inj q)]; exact h1, .tail _ h2, ?_, h4⟩
      rw [idxOf_snoc, if_neg (Ne.symm e)]
      exact h3
  · rw [valueAt_new hno] at h1 h2
    have old : ∀ d, valueAt kvs ⟨#[d]⟩ = some (.ref lc) → False := fun d hd => by
      by_cases hm : d ∈ pre
      · obtain ⟨ld, ws, k, g1, g2, _, _⟩ := h.yes d hm
        rw [hd] at g1
        cases g1
        exact Nat.lt_irrefl _ (hl _ g2)
      · rw [h.no d hm] at hd; cases hd
    by_cases e : (⟨#[d]⟩ : Str) = ⟨#[c]⟩
    · by_cases e' : (⟨#[d']⟩ : Str) = ⟨#[c]⟩
      · exact (sgn_inj e).trans (sgn_inj e').symm
      · rw [if_pos e] at h1
        rw [if_neg e'] at h2
        cases h1
        exact (old _ h2).elim
    · rw [if_neg e] at h1
      by_cases e' : (⟨#[d']⟩ : Str) = ⟨#[c]⟩
      · rw [if_pos e'] at h2
        cases h2
        exact (old _ h1).elim
      · rw [if_neg e'] at h2
        exact h.inj _ _ _ h1 h2
end Mine
end
section
open PySem PySem.W PyProof.Rows
namespace Mine
theorem obj5 {P : Prop} {h₀ h : Heap} {L D : Addr} {a b c d : Addr × Obj} {o : Obj} {r : List (Addr × Obj)} (N : News h₀ L h (a :: b :: c :: d :: (D, o) :: r)) (k : let o' := o; News h₀ L h (a :: b :: c :: d :: (D, o') :: r) → P) : P := k N
end Mine
end
section
open PySem PySem.W PyProof.Rows
namespace Mine
theorem freshC14 : True := by
  k_with_none
  w_top off
  (try (have _h : ∀ (M : Model) (A : Around) (Q : Flow → _) (E : Value → _) (s : Shared) (e : Env), wpAny M A (execs [] e) Q E s := by (intros; walk1; fail "no")))
  k_with "omega" => (first | with_reducible assumption | exact rm1 (by with_reducible assumption) rfl | exact rm2 (by with_reducible assumption) rfl | exact rm3 (by with_reducible assumption) rfl | exact rm4 (by with_reducible assumption) rfl | exact rm0 (by with_reducible assumption) | with_reducible exact ⟨by with_reducible assumption, by with_reducible assumption⟩ | with_reducible exact Or.inl (by with_reducible assumption) | with_reducible exact Or.inr (by with_reducible assumption) | with_reducible exact i1 (by decide) | with_reducible exact i2 | with_reducible exact i3 | with_reducible exact i4 (by decide) | with_reducible exact j1 (by with_reducible assumption) (by decide) | with_reducible exact j2 (by with_reducible assumption) (by decide) | with_reducible exact i5 (by with_reducible assumption) (by decide) | with_reducible exact i6 (by with_reducible assumption) (by decide) | with_reducible exact i7 (by with_reducible assumption))
  trivial
theorem wordsC14_1 : True := by
  k_with "call type:type" => ((with_reducible show wpAny _ _ (call _ [Value.bytes _ _]) _ _ _); refine PySem.call_type_of (Tx := "bytes") rfl (by decide +kernel) ?_)
  k_with "k_all" => (exact neLow (by assumption))
  k_with "k_steps" => (repeat' ((fail_if_success (with_reducible show InvEndN _ _ _ _ _ _ _)); (fail_if_success (with_reducible show InvEndG _ _ _ _ _ _)); (fail_if_success (with_reducible show UnrEndW _ _ _ _ _ _)); (fail_if_success (with_reducible show wpAny _ _ (pyIter _) _ _ _)); (fail_if_success (with_reducible show wpAny _ _ (exec (Stmt.For (PySem.Expr.Tuple _ _ _) _ _ _ _) _) _ _ _)); (fail_if_success (with_reducible show wpAny _ _ (call (Value.type "enumerate") _) _ _ _)); (fail_if_success (with_reducible show wpAny _ _ (call (Value.builtin "dict.setdefault") _) _ _ _)); (first | (k_unfold; (try dsimp only)) | (k_end; kc_close) | walk1 | (dsimp only; walk1) | (leave1; walk_say "STEP leave1"; (try dsimp only)) | fail "no step")))
  k_with "ite" => (first | with_reducible refine ite_tt ?_ | with_reducible refine ite_ff ?_ | (with_reducible refine ieq_yes ?_ ?_; (focus (first | lia | omega))) | (with_reducible refine ieq_no ?_ ?_; (focus (first | lia | omega))) | (with_reducible refine ine_yes ?_ ?_; (focus (first | lia | omega))) | (with_reducible refine ine_no ?_ ?_; (focus (first | lia | omega))) | (with_reducible refine idec_yes ?_ ?_; (focus (first | lia | omega))) | (with_reducible refine idec_no ?_ ?_; (focus (first | lia | omega))))
  k_with "call builtin:len" => (k_here; (with_reducible show wpAny _ _ (call (Value.builtin "len") [Value.str _ _]) _ _ _); k_dflt (refine P.len_str ?lnf ?_; (case lnf => (first | lia | omega))))
  k_with "k_all" => (with_reducible assumption)
  k_with "k_all" => (exact neOfLt (by assumption))
  trivial
theorem units_tc (A : Around) (args : Args) : (A.under (.builtin "type.__call__" args)).units = A.units + 1 := rfl
theorem wordsC14_3 : True := by
  k_with "ktr_units" => (have hcL9 := cLine_is; (try simp only [units_tc, units_in1, units_deeper, Around.mark_units, units_caller] at *); (try dsimp only [ktrTop] at *); (first | lia | omega))
  k_with "spliced" => (k_here; (with_reducible show wpAny _ _ (spliced (backTo _ (starEach (_ :: _) _))) _ _ _); k_dflt (refine' args_pure (g := sg) (d := sd) (o := so) ?w8a ?w8F ?w8p ?_; (case w8a => exact rfl); (case w8F => k_asm); (case w8p => exact rfl); k_whole); (dsimp only [PVK, List.cons_append, List.nil_append]); intros)
  k_with "same" => (repeat (first | with_reducible exact sameE | ((with_reducible refine kstJ ?_ ?_ ?_); rfl; rfl) | ((with_reducible refine updJ ?_ ?_); rfl) | ((with_reducible refine upLJ ?_ ?_); rfl)))
  k_with "storeName" => (k_here; k_dflt (first | (refine' storeJ (g := sg) (d := sd) (o := so) ?F ?N ?_ ?a ?b; (case F => k_asm); (case N => k_asm); (case a => rfl); (case b => rfl); k_whole; intro _ _ _ _ _ _) | (refine' storeV (g := sg) (d := sd) (o := so) ?F ?N ?_ ?a ?b; (case F => k_asm); (case N => k_asm); (case a => rfl); (case b => rfl); k_whole; intro _ _ _ _)); (try k_sweep))
  k_with "execs cons" => (k_here; (with_reducible show wpAny _ _ (execs (Stmt.If _ _ _ _ :: _) _) _ _ _); k_dflt (first | (refine' if_yes (g := sg) (d := sd) (o := so) ?w9F ?w9p ?w9P ?_ ?w9a ?w9b; (case w9F => k_asm); (case w9p => exact rfl); (case w9P => first | (first | lia | omega) | (first | exact rfl | assumption | exact ⟨by first | (first | lia | omega) | assumption, by first | exact rfl | assumption | (first | lia | omega)⟩)); (case w9a => exact rfl); (case w9b => first | dsimp only [List.cons_append, List.nil_append] | exact rfl); k_whole; intro _) | (refine' if_no (g := sg) (d := sd) (o := so) ?w9F ?w9p ?w9P ?_ ?w9a ?w9b; (case w9F => k_asm); (case w9p => exact rfl); (case w9P => first | (first | lia | omega) | (first | exact rfl | assumption | exact Or.inl (by first | (first | lia | omega) | assumption | exact rfl) | exact Or.inr (by first | (first | lia | omega) | assumption | exact rfl))); (case w9a => exact rfl); (case w9b => first | dsimp only [List.cons_append, List.nil_append] | exact rfl); k_whole; intro _)))
  k_with "execs cons" => (k_here; (with_reducible show wpAny _ _ (execs (Stmt.Assign [Expr.Name _ _] _ _ :: _) _) _ _ _); k_dflt (refine' as_int (g := sg) (d := sd) (o := so) ?w9F ?w9N ?w9p ?_ ?w9a ?w9b ?w9c; (case w9F => k_asm); (case w9N => k_asm); (case w9p => exact rfl); (case w9a => exact rfl); (case w9b => exact rfl); (case w9c => exact rfl); k_whole; intro _ _ _ _ _ _; (try k_sweep)))
  k_with "assignInOrder" => (k_here; k_dflt (first | (refine' asg_names (g := sg) (d := sd) (o := so) ?w6F ?w6N ?w6p ?w6l ?_ ?w6a ?w6k; (case w6F => k_asm); (case w6N => k_asm); (case w6p => exact rfl); (case w6l => exact rfl); (case w6a => exact rfl); (case w6k => exact rfl); k_whole; intro _ _ _ _ _) | (refine' asg_bind (g := sg) (d := sd) (o := so) ?w6k ?w6F ?w6N ?w6l ?_ ?w6a; (case w6F => k_asm); (case w6N => k_asm); (case w6l => exact rfl); (case w6a => exact rfl); (case w6k => exact rfl); k_whole; intro _ _ _ _ _)); (try k_sweep))
  trivial
@[reducible] def en (w : World) (nm : String) (t : Tok) (v : Value) : DictEntry := ⟨PyData.keyHash w.params (Str.ofString nm), .str (Str.ofString nm) t, v⟩
section
variable {w : World} {base : Heap} {news : News0}
set_option maxRecDepth 100000
set_option maxHeartbeats 8000000
theorem c_chain_b (sf dx : Addr) (x y : Str) (tx ty : Tok) (t1 t2 t3 t4 t5 t6 t7 : Tok) (hsf : @LT.lt Nat _ dx sf) (hn : ∀ p ∈ news, p.1 < dx) (hy : y.length ≤ 64) (hya : y.cps.all (· < 128) = true) :
    Con w 2 base ((sf, instObj 323 dx) :: (dx, dictOf [en w "isjunk" t1 .none, en w "a" t2 (.str x tx), en w "b" t3 (.str y ty), en w "autojunk" t4 (.bool true), en w "matching_blocks" t5 .none, en w "opcodes" t6 .none, en w "fullbcount" t7 .none] 7) :: news) (call (.ref 269) [.ref sf])
    (fun G => ∀ (db sj sp : Addr) (ob : Obj) (kvs : List (Str × Value)) (t8 t9 t10 : Tok) (l1 l2 : Bool) (rest : News0), @LT.lt Nat _ sf db → @LT.lt Nat _ db sj → @LT.lt Nat _ sj sp → ob.IsDictOf (PySem.strKind PG w) kvs → kvs.length ≤ y.length → B2J [] rest kvs y.cps.toList →
      (∀ p ∈ news, p ∈ rest) → (∀ p ∈ rest, p.1 ≠ db) → (∀ p ∈ rest, p.1 ≠ sf) → (∀ p ∈ rest, p.1 ≠ dx) → (∀ p ∈ rest, p.1 < sj) →
      G .none ((sp, setO l2) :: (sj, setO l1) :: (db, ob) :: (sf, instObj 323 dx) :: (dx, dictOf [en w "isjunk" t1 .none, en w "a" t2 (.str x tx), en w "b" t3 (.str y ty), en w "autojunk" t4 (.bool true), en w "matching_blocks" t5 .none, en w "opcodes" t6 .none, en w "fullbcount" t7 .none, en w "b2j" t8 (.ref db), en w "bjunk" t9 (.ref sj), en w "bpopular" t10 (.ref sp)] 10) :: rest)) := by
  refine Con.mk2 ?_
  intro p loose mean mg mb dp un gd cn cns cg cc cm a ccd cl outer A₀ h₀ L m sh sg sd sk so Q E B F X N T hd hu hret
  refine wpAny_call ?_
  k_dflt k_enter
  have hMk := kstMark
  (rename Fr _ _ _ _ => lFe); refine fr_let lFe ?_; clear lFe; intro me lFe
  refine let_A ?_
  intro A9
  k_steps
  (k_here; (rename Fr _ _ _ _ => lF'); (k_dflt (with_unfolding_all refine' For_turns lF' ?_; k_whole)))
  k_steps
  rename_i _ db _ ob0 hlo hstr _ _ _ hlt _ _ _ N0 _
  obtain ⟨hlt1, hlt2, hlt3⟩ := hlt
  k_dflt (with_unfolding_all refine' kj_enumS (σ := Obj × List (Str × Value) × News0) (fun c => (db, c.1) :: (sf, instObj 323 dx) :: (dx, _) :: c.2.2) (fun _ => []) ["i", "elt", "indices"] (fun i c => c.1.IsDictOf (PySem.strKind PG w) c.2.1 ∧ c.2.1.length ≤ i ∧ B2J ((db, ob0) :: (sf, ob0) :: (dx, ob0) :: news) c.2.2 c.2.1 (y.cps.toList.take i) ∧ (∀ p ∈ news, p ∈ c.2.2) ∧ (∀ p ∈ c.2.2, p.1 ≠ db) ∧ (∀ p ∈ c.2.2, p.1 ≠ sf) ∧ (∀ p ∈ c.2.2, p.1 ≠ dx)) (ob0, [], news) (by rfl) hya lF' N0 (fun _ hp => nomatch hp) ⟨hstr, Nat.le_refl _, B2J.nil _ _, fun _ h => h, neOfLt (allLt_mem _ hlt3), fun p hp => Nat.ne_of_lt (Nat.lt_trans (hn p hp) hsf), neOfLt hn⟩ ?turn ?done)
  case turn =>
    intro I o1 o2 c8
    refine match c8 with | ⟨ob, kvs, rest⟩ => ?_
    intro i T9 ti9 c9 tc9 u9 h9 tk9 hc9 hoff hP18 hT9 F9 N9
    refine opqG fun G8 hG8 => ?_
    obtain ⟨hd9, hkl9, hB9, hsub9, hn1, hn2, hn3⟩ := hP18
    refine hG8 ?_
    clear hG8 G8
    clear lF' N0
    dsimp only at hd9 hkl9 hB9 hsub9 hn1 hn2 hn3 F9 N9 hoff
    refine fr_let F9 ?_
    clear F9
    intro mf9 F9
    refine obj5 N9 ?_
    clear N9
    intro od N9
    have hi9 : i < y.length := (Array.getElem?_eq_some_iff.mp hc9).1
    have htk : y.cps.toList.take (i + 1) = y.cps.toList.take i ++ [c9] := by
      rw [List.take_add_one, Array.getElem?_toList, hc9]; rfl
    have hpl : (y.cps.toList.take i).length = i := by
      rw [List.length_take, Array.length_toList]
      exact Nat.min_eq_left (Nat.le_of_lt hi9)
    have hI1 := hoff _ (.head _)
    have hI2 := hoff _ (.tail _ (.head _))
    have hI3 := hoff _ (.tail _ (.tail _ (.head _)))
    have hI4 : ∀ p ∈ rest, p.1 ≠ I ∧ p.1 ≠ I + 1 := fun p hp => hoff p (.tail _ (.tail _ (.tail _ hp)))
    dsimp only at hI1 hI2 hI3
    k_steps
    rename Fr _ _ _ _ => F7
    rename News _ _ _ _ => N7
    rename_i lD _ hlD
    obtain ⟨q1, q2, q3, q4, q5, q6⟩ := hlD
    by_cases hc : c9 ∈ y.cps.toList.take i
    · obtain ⟨lc, vs, n, hv, hm, hIi, hlc⟩ := hB9.yes c9 hc
      have g1 := ltN (hlc _ (.head _))
      have g2 := ltN (hlc _ (.tail _ (.head _)))
      have g3 := ltN (hlc _ (.tail _ (.tail _ (.head _))))
      have g4 := hI4 _ hm
      obtain ⟨g5, g6⟩ := g4
      have g7 := Ne.symm g5
      have g8 := Ne.symm g6
      dsimp only at g1 g2 g3 g5 g6 g7 g8
      have hfl : ∀ p ∈ rest.filter (fun p => decide (p.1 ≠ lc)), p.1 ≠ lc := fun p hp => of_decide_eq_true (List.mem_filter.mp hp).2
      k_dflt (refine kob_setdef_there (knd := PySem.strKind _ _) N7 (by k_mem) hd9 hlo (strKind_is _ _ _ _) (PySem.F.args_dict_setdefault_3 _ _ _) hv (by rw [PySem.sizeLine_eq]; exact dn30 0x3efbed8000000000004000002d077002d82076040b00 (by k_ne) hy hkl9 hi9) ?_)
      have N8 : News _ _ _ ((lc, listOf vs.toArray n) :: (I + 1, o1) :: (I, o2) :: (db, ob) :: (sf, instObj 323 dx) :: (dx, _) :: rest.filter (fun p => decide (p.1 ≠ lc))) := fun p hp => N7 p (by
        rcases List.mem_cons.mp hp with rfl | hp
        · exact .tail _ (.tail _ (.tail _ (.tail _ (.tail _ (.tail _ hm)))))
        rcases List.mem_cons.mp hp with rfl | hp
        · k_mem
        rcases List.mem_cons.mp hp with rfl | hp
        · k_mem
        rcases List.mem_cons.mp hp with rfl | hp
        · k_mem
        rcases List.mem_cons.mp hp with rfl | hp
        · k_mem
        rcases List.mem_cons.mp hp with rfl | hp
        · k_mem
        exact .tail _ (.tail _ (.tail _ (.tail _ (.tail _ (.tail _ (List.mem_filter.mp hp).1))))))
      clear N7
      have hvs := hIi.length
      have hidx := idxOf_len (y.cps.toList.take i) c9
      k_steps
      rename Fr _ _ _ _ => F6
      rename News _ _ _ _ => N6
      (try simp only [List.push_toArray] at N6)
      refine' endJ F6 N6 ((db, ob) :: (sf, instObj 323 dx) :: (dx, _) :: (lc, listOf (vs ++ [Value.int (i : Int) _]).toArray (n + 1)) :: rest.filter (fun p => decide (p.1 ≠ lc))) ?hI9 ?hs9 ?ho9 ⟨(ob, kvs, (lc, listOf (vs ++ [Value.int (i : Int) _]).toArray (n + 1)) :: rest.filter (fun p => decide (p.1 ≠ lc))), rfl, (fun _ hp => nomatch hp), ?hr9, hd9, Nat.le_succ_of_le hkl9, ?hB, ?hs, ?hx1, ?hx2, ?hx3⟩
      case hI9 =>
        intro p hp
        rcases List.mem_cons.mp hp with rfl | hp
        · k_mem
        rw [List.mem_singleton.mp hp]
        k_mem
      case hs9 =>
        intro p hp
        rcases List.mem_cons.mp hp with rfl | hp
        · k_mem
        rcases List.mem_cons.mp hp with rfl | hp
        · k_mem
        rcases List.mem_cons.mp hp with rfl | hp
        · k_mem
        rcases List.mem_cons.mp hp with rfl | hp
        · k_mem
        (repeat (first | exact hp | refine List.Mem.tail _ ?_))
      case ho9 =>
        intro p hp q hq
        have hp' : p.1 ≠ I ∧ p.1 ≠ I + 1 := by
          rcases List.mem_cons.mp hp with rfl | hp
          · exact hI1
          rcases List.mem_cons.mp hp with rfl | hp
          · exact hI2
          rcases List.mem_cons.mp hp with rfl | hp
          · exact hI3
          rcases List.mem_cons.mp hp with rfl | hp
          · exact ⟨g5, g6⟩
          exact hI4 p (List.mem_filter.mp hp).1
        rcases List.mem_cons.mp hq with rfl | hq
        · exact hp'.2
        rw [List.mem_singleton.mp hq]
        exact hp'.1
      case hr9 =>
        refine sameJ ?_
        k_extra "same"
      case hB =>
        show B2J _ _ _ _
        rw [htk]
        have hm2 := fun tX => hB9.more (n' := n + 1) (t := tX) hc hv hIi hlc
        simp only [hpl] at hm2
        exact hm2 _
      case hs => exact fun p hp => .tail _ (List.mem_filter.mpr ⟨hsub9 p hp, decide_eq_true (Nat.ne_of_lt (hlc p (.tail _ (.tail _ (.tail _ hp)))))⟩)
      case hx1 =>
        refine fall_cons (by exact Nat.ne_of_gt g1) ?_
        exact fun p hp => hn1 p (List.mem_filter.mp hp).1
      case hx2 =>
        refine fall_cons (by exact Nat.ne_of_gt g2) ?_
        exact fun p hp => hn2 p (List.mem_filter.mp hp).1
      case hx3 =>
        refine fall_cons (by exact Nat.ne_of_gt g3) ?_
        exact fun p hp => hn3 p (List.mem_filter.mp hp).1
    · have hI1a := hI1.1
      have hI1b := hI1.2
      k_dflt (refine' kob_setdef_new (knd := PySem.strKind _ _) F7 N7 ?U hd9 hlo (strKind_is _ _ _ _) (PySem.F.args_dict_setdefault_3 _ _ _) (hB9.no c9 hc) ?z ?_)
      case U =>
        exact .tail (Nat.ne_of_gt q3) (.tail (Ne.symm hI1b) (.tail (Ne.symm hI1a) (.head fun p hp => by
          rcases List.mem_cons.mp hp with rfl | hp
          · exact Nat.ne_of_lt hlt1
          rcases List.mem_cons.mp hp with rfl | hp
          · exact Nat.ne_of_lt hlt2
          exact hn1 p hp)))
      case z => rw [PySem.sizeLine_eq]; exact dn30 0x3efbed8000000000004000002d077002d82076040b00 (by k_ne) hy hkl9 hi9
      intro h6 ob6 F8 N8 hd8
      clear F7 N7
      try dsimp only at N8
      k_steps
      rename Fr _ _ _ _ => F6
      rename News _ _ _ _ => N6
      simp only [List.push_toArray, List.nil_append] at N6
      refine' endJ F6 N6 ((db, ob6) :: (sf, instObj 323 dx) :: (dx, _) :: (lD, listOf [Value.int (i : Int) _].toArray (0 + 1)) :: rest) ?hI9 ?hs9 ?ho9 ⟨(ob6, _, (lD, listOf [Value.int (i : Int) _].toArray (0 + 1)) :: rest), rfl, (fun _ hp => nomatch hp), ?hr9, hd8, Nat.le_trans stored_len (Nat.succ_le_succ hkl9), ?hB, ?hs, ?hx1, ?hx2, ?hx3⟩
      case hI9 =>
        intro p hp
        rcases List.mem_cons.mp hp with rfl | hp
        · k_mem
        rw [List.mem_singleton.mp hp]
        k_mem
      case hs9 =>
        intro p hp
        rcases List.mem_cons.mp hp with rfl | hp
        · k_mem
        rcases List.mem_cons.mp hp with rfl | hp
        · k_mem
        rcases List.mem_cons.mp hp with rfl | hp
        · k_mem
        rcases List.mem_cons.mp hp with rfl | hp
        · k_mem
        (repeat (first | exact hp | refine List.Mem.tail _ ?_))
      case ho9 =>
        intro p hp q hq
        have hp' : p.1 ≠ I ∧ p.1 ≠ I + 1 := by
          rcases List.mem_cons.mp hp with rfl | hp
          · exact hI1
          rcases List.mem_cons.mp hp with rfl | hp
          · exact hI2
          rcases List.mem_cons.mp hp with rfl | hp
          · exact hI3
          rcases List.mem_cons.mp hp with rfl | hp
          · exact ⟨Nat.ne_of_gt q2, Nat.ne_of_gt q1⟩
          exact hI4 p hp
        rcases List.mem_cons.mp hq with rfl | hq
        · exact hp'.2
        rw [List.mem_singleton.mp hq]
        exact hp'.1
      case hr9 =>
        refine sameJ ?_
        k_extra "same"
      case hB =>
        show B2J _ _ _ _
        rw [htk]
        have hm2 := fun tX => hB9.fresh (n' := 0 + 1) (t := tX) hc (allLt_mem _ q6) (fun p hp => by
          rcases List.mem_cons.mp hp with rfl | hp
          · exact q3
          rcases List.mem_cons.mp hp with rfl | hp
          · exact q4
          rcases List.mem_cons.mp hp with rfl | hp
          · exact q5
          exact allLt_mem _ q6 p (hsub9 p hp))
        simp only [hpl] at hm2
        exact hm2 _
      case hs => exact fun p hp => .tail _ (hsub9 p hp)
      case hx1 =>
        refine fall_cons (by exact Nat.ne_of_gt q3) ?_
        exact fun p hp => hn1 p hp
      case hx2 =>
        refine fall_cons (by exact Nat.ne_of_gt q4) ?_
        exact fun p hp => hn2 p hp
      case hx3 =>
        refine fall_cons (by exact Nat.ne_of_gt q5) ?_
        exact fun p hp => hn3 p hp
  case done =>
    intro c8
    refine match c8 with | ⟨ob, kvs, rest⟩ => ?_
    intro u9 h9 tk9 hP18 F9 N9
    refine opqG fun G8 hG8 => ?_
    obtain ⟨hd9, hkl9, hB9, hsub9, hn1, hn2, hn3⟩ := hP18
    refine hG8 ?_
    clear hG8 G8
    clear lF' N0
    dsimp only at hd9 hkl9 hB9 hsub9 hn1 hn2 hn3 F9 N9
    refine fr_let F9 ?_
    clear F9
    intro mf9 F9
    have hall : y.cps.toList.take y.cps.size = y.cps.toList := List.take_of_length_le (by rw [Array.length_toList]; exact Nat.le_refl _)
    rw [hall] at hB9
    k_steps
    rename _ ∧ _ ∧ _ ∧ _ ∧ AllLt _ _ => hsp
    rename _ ∧ _ ∧ _ ∧ AllLt _ _ => hsj
    rename Fr h₀ L _ m => kF
    rename News h₀ L _ _ => kN
    obtain ⟨s1, s2, s3, s4⟩ := hsj
    exact hret db _ _ _ _ _ _ _ _ _ rest hlt1 s1 hsp.1 hd9 hkl9 hB9.weak hsub9 hn1 hn2 hn3 (allLt_mem _ s4) _ _ kF kN
theorem wordsC14_4 : True := by
  k_with "call ref" => (k_here; k_dflt (refine' Con.useA (c_chain_b _ _ _ _ _ _ _ _ _ _ _ _ _ ?c1 ?c2 ?c3 ?c4) ?kh ?kf ?k1 ?k2 ?k3 ?k4 ?k5 ?k6 ?k7 ?k8 ?_; (case kh => exact rfl); (case kf => exact rfl); (case k1 => k_asm); (case k2 => k_asm); (case k3 => k_asm); (case k4 => k_asm); (case k5 => k_asm); (case k6 => exact rfl); (case k7 => ((try dsimp only [A9]); ktr_room)); (case k8 => ((try dsimp only [A9]); ktr_units)); (case c1 => assumption); (case c2 => first | assumption | exact allLt_mem _ (by assumption)); (case c3 => assumption); (case c4 => assumption); k_whole); intro _ _ _ _ _ _ _ _ _ _ _ _ _ _ _ _ _ _ _ _ _ _ _ _ _ _; (try k_sweep))
  trivial
theorem c_seqm (x y : Str) (tx ty : Tok) (hy : y.length ≤ 64) (hya : y.cps.all (· < 128) = true) : Con w 6 base news (call (.ref 323) [.none, .str x tx, .str y ty])
    (fun G => ∀ (sf dx db sj sp : Addr) (ob : Obj) (kvs : List (Str × Value)) (t1 t2 t3 t4 t5 t6 t7 t8 t9 t10 : Tok) (l1 l2 : Bool) (rest : News0), @LT.lt Nat _ dx sf → @LT.lt Nat _ sf db → @LT.lt Nat _ db sj → @LT.lt Nat _ sj sp → ob.IsDictOf (PySem.strKind PG w) kvs → kvs.length ≤ y.length → B2J [] rest kvs y.cps.toList →
      (∀ p ∈ news, p ∈ rest) → (∀ p ∈ rest, p.1 ≠ db) → (∀ p ∈ rest, p.1 ≠ sf) → (∀ p ∈ rest, p.1 ≠ dx) → (∀ p ∈ rest, p.1 < sj) →
      G (.ref sf) ((sp, setO l2) :: (sj, setO l1) :: (db, ob) :: (sf, instObj 323 dx) :: (dx, dictOf [en w "isjunk" t1 .none, en w "a" t2 (.str x tx), en w "b" t3 (.str y ty), en w "autojunk" t4 (.bool true), en w "matching_blocks" t5 .none, en w "opcodes" t6 .none, en w "fullbcount" t7 .none, en w "b2j" t8 (.ref db), en w "bjunk" t9 (.ref sj), en w "bpopular" t10 (.ref sp)] 10) :: rest)) := by
  refine Con.mk2 ?_
  intro p loose mean mg mb dp un gd cn cns cg cc cm a ccd cl outer A₀ h₀ L m sh sg sd sk so Q E B F X N T hd hu hret
  have hMk := kstMark
  (rename Fr _ _ _ _ => lFe); refine fr_let lFe ?_; clear lFe; intro me lFe
  k_steps
  rename Fr h₀ L _ m => kF
  rename News h₀ L _ _ => kN
  exact hret _ _ _ _ _ _ _ _ _ _ _ _ _ _ _ _ _ _ _ _ (by assumption) (by assumption) (by assumption) (by assumption) (by assumption) (by assumption) (by assumption) (by assumption) (by assumption) (by assumption) (by assumption) (by assumption) _ _ kF kN
end
end Mine
end
section
open PySem PySem.W PyProof.Rows
namespace Mine
open Sem (wp)
theorem look_dict_get : typeLookup (.type "dict") (Str.ofString "get") = pure (some (.builtin "dict.get")) := PySem.F.slot_dict_get.lookup
theorem kind_dict_get : builtinKind "dict.get" = some .method := by decide +kernel
theorem look_md_get : typeLookup (.type "method_descriptor") (Str.ofString "__get__") = pure (some (.builtin "method_descriptor.__get__")) := by rw [typeLookup_type, builtinLookup_eq_fast]; kernel_rfl
theorem look_md_set : typeLookup (.type "method_descriptor") (Str.ofString "__set__") = pure none := by rw [typeLookup_type, builtinLookup_eq_fast]; kernel_rfl
theorem look_md_delete : typeLookup (.type "method_descriptor") (Str.ofString "__delete__") = pure none := by rw [typeLookup_type, builtinLookup_eq_fast]; kernel_rfl
theorem slot_md_get : Slot "method_descriptor" (Str.ofString "__get__") "method_descriptor.__get__" :=
  .of (owner := "method_descriptor") (n := "__get__") look_md_get (by decide +kernel) (by decide +kernel) (by decide +kernel)
  (by first | exact .inl (by decide +kernel) | exact .inr (by decide +kernel)) (by rw [isSubtype_type]; kernel_rfl)
theorem entry_md_get : entryFor table "method_descriptor.__get__" = some Builtin.«method_descriptor.__get__» := entryFor_of_tree (by kernel_rfl)
theorem args_md_get_3 (a b c : Value) : argsOk "method_descriptor.__get__" ⟨[a, b, c], []⟩ := by
  unfold argsOk; kernel_rfl
theorem type_dict_get : typeOf (.builtin "dict.get") = pure (.type "method_descriptor") := by show builtinType _ = _; rw [builtinType_eq_fast]; kernel_rfl
theorem owner_dict_get : ".".intercalate ("dict.get".cutAt '.').dropLast = "dict" := by decide +kernel
theorem sub_dict : isSubtype (.type "dict") (.type "dict") = pure true := by rw [isSubtype_type]; kernel_rfl
set_option maxHeartbeats 2000000 in
theorem meets_md_get (a : Addr) (es : Array DictEntry) (k : Nat) (sl : Array (Option Value)) :
    Meets (Builtin.«method_descriptor.__get__» ⟨[.builtin "dict.get", .ref a, .type "dict"], []⟩) (fun A R s => s.heap.get? a = some { cls := .type "dict", dict := none, data := .dict es k, slots := sl } ∧
      ∀ tk, R (.ok (.ret (.ref s.heap.objs.size))) { s with heap := s.heap.push { cls := .type "builtin_function_or_method", data := .fields #[.builtin "dict.get", .ref a] }, toks := tk }) :=
  Meets.of_wp fun prog w A R s hs => by
    obtain ⟨hp, g, d, tk, os⟩ := s
    obtain ⟨hx, hs⟩ := hs
    have hT : (⟨hp, g, d, tk, os⟩ : Shared).TypeIs (.ref a) "dict" := ⟨_, hx, rfl⟩
    have l1 := sub_dict
    unfold Builtin.«method_descriptor.__get__»
    repeat (any_goals (first | assumption | rw [owner_dict_get] | wp_step))
    exact ⟨_, rfl, hs tk⟩
theorem code_md_get {prog : Program} {w : World} {A : Around} {R : Result → Shared → Prop} {s : Shared} {a : Addr} {es : Array DictEntry} {k : Nat} {sl : Array (Option Value)} (hx : s.heap.get? a = some { cls := .type "dict", dict := none, data := .dict es k, slots := sl })
    (h : ∀ tk, R (.ok (.ret (.ref s.heap.objs.size))) { s with heap := s.heap.push { cls := .type "builtin_function_or_method", data := .fields #[.builtin "dict.get", .ref a] }, toks := tk }) : codeAny (model prog w) A (.call (.builtin "method_descriptor.__get__") ⟨[.builtin "dict.get", .ref a, .type "dict"], []⟩) R s :=
  codeAny_call_builtin slot_md_get.plain entry_md_get (slot_md_get.check _ _ _ _ _ _ _ _ type_dict_get (args_md_get_3 _ _ _) (meets_md_get a es k sl prog w A R s ⟨hx, h⟩))
set_option maxHeartbeats 2000000 in
theorem meets_dict_get (a : Addr) (es : Array DictEntry) (k : Nat) (sl : Array (Option Value)) (u : Tok) :
    Meets (Builtin.«object.__getattribute__» ⟨[.ref a, .str (Str.ofString "get") u], []⟩) (fun A R s => s.heap.get? a = some { cls := .type "dict", dict := none, data := .dict es k, slots := sl } ∧
      ∀ tk, R (.ok (.ret (.ref s.heap.objs.size))) { s with heap := s.heap.push { cls := .type "builtin_function_or_method", data := .fields #[.builtin "dict.get", .ref a] }, toks := tk }) :=
  Meets.of_wp fun prog w A R s hs => by
    obtain ⟨hp, g, d, tk, os⟩ := s
    obtain ⟨hx, hs⟩ := hs
    have hT : (⟨hp, g, d, tk, os⟩ : Shared).TypeIs (.ref a) "dict" := ⟨_, hx, rfl⟩
    have hl := look_dict_get
    have l1 := look_md_get
    have l2 := look_md_set
    have l3 := look_md_delete
    unfold Builtin.«object.__getattribute__»
    repeat (any_goals (first | assumption | (rw [kind_dict_get]; dsimp only) | wp_step))
    refine code_md_get hx fun tk => ?_
    exact wpAny_pure ⟨_, rfl, hs tk⟩
theorem getAttr_dict_get {prog : Program} {w : World} {A : Around} {E : Value → Shared → Prop} {s : Shared} {a : Addr} {o : Obj} {es : Array DictEntry} {k : Nat} {Q : Value → Shared → Prop}
    (hx : s.heap.get? a = some o) (hc : o.cls = .type "dict") (hdat : o.data = .dict es k) (hd : o.dict = none)
    (h : ∀ tk, Q (.ref s.heap.objs.size) { s with heap := s.heap.push { cls := .type "builtin_function_or_method", data := .fields #[.builtin "dict.get", .ref a] }, toks := tk }) :
    wpAny (model prog w) A (getAttr (.ref a) (Str.ofString "get") true) Q E s := by
  obtain ⟨c, dct, dat, sl⟩ := o
  simp only at hc hdat hd
  subst hc hdat hd
  obtain ⟨hp, g, d, tk, os⟩ := s
  have hT : ∀ tk', (⟨hp, g, d, tk', os⟩ : Shared).TypeIs (.ref a) "dict" := fun _ => ⟨_, hx, rfl⟩
  have f3 := F.slot_dict_getattribute.lookup
  have f4 := F.slot_dict_getattribute.bind (.ref a)
  unfold getAttr getAttrBy
  repeat (any_goals (first | assumption | exact hT _ | ((with_reducible show wpAny _ _ (call (Value.builtin "dict.__getattribute__") _ _) _ _ _); refine call_meets F.slot_dict_getattribute (hT _) am_entry_dict_getattribute (F.args_dict_getattribute_2 _ _) (meets_dict_get a es k sl _) ⟨hx, fun tk' => ?_⟩) | wp_step))
  show wpAny (model prog w) A (handedOut _) Q E _
  unfold handedOut
  exact wpAny_pure (h _)
end Mine
end
section
open PySem PySem.W PyProof.Rows
namespace Mine
open Sem (wp)
theorem sub_dict_module : isSubtype (.type "dict") (.type "module") = pure false := by rw [isSubtype_type]; kernel_rfl
theorem sub_dict_type : isSubtype (.type "dict") (.type "type") = pure false := by rw [isSubtype_type]; kernel_rfl
theorem noVar_get : Manifest.varargsMethods.contains "dict.get" = false := by decide +kernel
set_option maxHeartbeats 2000000 in
theorem check_bound_get {M : Model} {A : Around} {E : Value → Shared → Prop} {s : Shared} {a : Addr} {es : Array DictEntry} {k : Nat} {sl : Array (Option Value)} {key dflt : Value} {Q : Unit → Shared → Prop} (hx : s.heap.get? a = some { cls := .type "dict", dict := none, data := .dict es k, slots := sl }) (h : Q () s) :
    wpAny M A (checkBoundCall "dict.get" ⟨[.ref a, key, dflt], []⟩) Q E s := by
  obtain ⟨hp, g, d, tk, os⟩ := s
  have hT : (⟨hp, g, d, tk, os⟩ : Shared).TypeIs (.ref a) "dict" := ⟨_, hx, rfl⟩
  have k1 := kind_dict_get
  unfold checkBoundCall
  have l1 := sub_dict_module
  have l2 := sub_dict_type
  repeat (any_goals (first | assumption | (rw [noVar_get]) | wp_step))
noncomputable def bfm (id : String) (d : Addr) : Obj := { cls := .type "builtin_function_or_method", data := .fields #[.builtin id, .ref d] }
theorem quiet_get {as : Args} : (Code.builtin "dict.get" as).quiet = true := Code.quiet_builtin _ (by decide +kernel)
theorem call_bound_get {prog : Program} {w : World} {A : Around} {E : Value → Shared → Prop} {s : Shared} {h₀ : Heap} {L : Addr} {news : List (Addr × Obj)} {K : Type} [DecidableEq K] {knd : KeyKind prog w K} {kvs : List (K × Value)} {k : K} {key dflt : Value} {q d : Addr} {o : Obj} {Q : Value → Shared → Prop}
    (N : News h₀ L s.heap news) (hq : (q, bfm "dict.get" d) ∈ news) (hp : (d, o) ∈ news) (hd : o.IsDictOf knd kvs) (lo : (d == sysModules) = false) (hkey : knd.is k key = true) (x : Option Value) (hl : valueAt kvs k = x) (h : Q (x.getD dflt) { s with toks := s.toks + 1 }) :
    wpAny (model prog w) A (call (.ref q) [key, dflt]) Q E s := by
  have hD := kda_dict N hp hd
  have hqs := (N _ hq).1
  have hds := (N _ hp).1
  refine wpAny_call (codeAny_of_tree ?_)
  show wpAny _ A.in1 (callAny (.ref q) ⟨[key, dflt], []⟩) _ _ s
  simp only [callAny]
  refine wpAny_bind (wpAny_load hqs ?_)
  simp only [bfm]
  refine KFB.if_so (by decide) ?_
  obtain ⟨es, ep, hex, hdat, _⟩ := hd
  obtain ⟨c, dct, dat, sl⟩ := o
  obtain ⟨e1, e2, e3⟩ := hex
  dsimp only at hdat e1 e2 e3
  subst hdat e1 e2 e3
  refine wpAny_bind (check_bound_get hds ?_)
  refine wpAny_bind (wpAny_pure (wpAny_pure ?_))
  refine ⟨quiet_get, codeAny_builtin PySem.F.entry_dict_get ?_⟩
  rw [Around.under_plainId PySem.F.slot_dict_get.plain]
  exact meets_dict_get_default knd d hkey lo dflt _ (fun r s' => match r with | .ok (.ret v) => Q v s' | .ok _ => False | .error e => E e s') _ ⟨_, hD.mapOf, by rw [hl]; exact h⟩
end Mine
end
section
open PySem PySem.W PyProof.Rows
namespace Mine
open Sem (wp)
theorem args_set_ga (a b : Value) : argsOk "set.__getattribute__" ⟨[a, b], []⟩ := by
  unfold argsOk; kernel_rfl
theorem am_entry_set_getattribute : entryFor table "set.__getattribute__" = some Builtin.«object.__getattribute__» :=
  entryFor_alias (id' := "object.__getattribute__") (by kernel_rfl) (by decide +kernel) (by decide +kernel) (by kernel_rfl)
theorem look_set_contains : typeLookup (.type "set") (Str.ofString "__contains__") = pure (some (.builtin "set.__contains__")) := PySem.F.slot_set_contains.lookup
theorem kind_set_contains : builtinKind "set.__contains__" = some .method := by decide +kernel
theorem type_set_contains : typeOf (.builtin "set.__contains__") = pure (.type "method_descriptor") := by show builtinType _ = _; rw [builtinType_eq_fast]; kernel_rfl
theorem owner_set_contains : ".".intercalate ("set.__contains__".cutAt '.').dropLast = "set" := by decide +kernel
theorem sub_set : isSubtype (.type "set") (.type "set") = pure true := by rw [isSubtype_type]; kernel_rfl
set_option maxHeartbeats 2000000 in
theorem meets_md_contains (a : Addr) (es : Array (Int × Value)) (k : Nat) (tb : SetTable) (sl : Array (Option Value)) :
    Meets (Builtin.«method_descriptor.__get__» ⟨[.builtin "set.__contains__", .ref a, .type "set"], []⟩) (fun A R s => s.heap.get? a = some { cls := .type "set", dict := none, data := .set es k tb, slots := sl } ∧
      ∀ tk, R (.ok (.ret (.ref s.heap.objs.size))) { s with heap := s.heap.push { cls := .type "builtin_function_or_method", data := .fields #[.builtin "set.__contains__", .ref a] }, toks := tk }) :=
  Meets.of_wp fun prog w A R s hs => by
    obtain ⟨hp, g, d, tk, os⟩ := s
    obtain ⟨hx, hs⟩ := hs
    have hT : (⟨hp, g, d, tk, os⟩ : Shared).TypeIs (.ref a) "set" := ⟨_, hx, rfl⟩
    have l1 := sub_set
    unfold Builtin.«method_descriptor.__get__»
    repeat (any_goals (first | assumption | rw [owner_set_contains] | wp_step))
    exact ⟨_, rfl, hs tk⟩
theorem code_md_contains {prog : Program} {w : World} {A : Around} {R : Result → Shared → Prop} {s : Shared} {a : Addr} {es : Array (Int × Value)} {k : Nat} {tb : SetTable} {sl : Array (Option Value)} (hx : s.heap.get? a = some { cls := .type "set", dict := none, data := .set es k tb, slots := sl })
    (h : ∀ tk, R (.ok (.ret (.ref s.heap.objs.size))) { s with heap := s.heap.push { cls := .type "builtin_function_or_method", data := .fields #[.builtin "set.__contains__", .ref a] }, toks := tk }) : codeAny (model prog w) A (.call (.builtin "method_descriptor.__get__") ⟨[.builtin "set.__contains__", .ref a, .type "set"], []⟩) R s :=
  codeAny_call_builtin slot_md_get.plain entry_md_get (slot_md_get.check _ _ _ _ _ _ _ _ type_set_contains (args_md_get_3 _ _ _) (meets_md_contains a es k tb sl prog w A R s ⟨hx, h⟩))
set_option maxHeartbeats 2000000 in
theorem meets_set_contains (a : Addr) (es : Array (Int × Value)) (k : Nat) (tb : SetTable) (sl : Array (Option Value)) (u : Tok) :
    Meets (Builtin.«object.__getattribute__» ⟨[.ref a, .str (Str.ofString "__contains__") u], []⟩) (fun A R s => s.heap.get? a = some { cls := .type "set", dict := none, data := .set es k tb, slots := sl } ∧
      ∀ tk, R (.ok (.ret (.ref s.heap.objs.size))) { s with heap := s.heap.push { cls := .type "builtin_function_or_method", data := .fields #[.builtin "set.__contains__", .ref a] }, toks := tk }) :=
  Meets.of_wp fun prog w A R s hs => by
    obtain ⟨hp, g, d, tk, os⟩ := s
    obtain ⟨hx, hs⟩ := hs
    have hT : (⟨hp, g, d, tk, os⟩ : Shared).TypeIs (.ref a) "set" := ⟨_, hx, rfl⟩
    have hl := look_set_contains
    have l1 := look_md_get
    have l2 := look_md_set
    have l3 := look_md_delete
    unfold Builtin.«object.__getattribute__»
    repeat (any_goals (first | assumption | (rw [kind_set_contains]; dsimp only) | wp_step))
    refine code_md_contains hx fun tk => ?_
    exact wpAny_pure ⟨_, rfl, hs tk⟩
theorem getAttr_set_contains {prog : Program} {w : World} {A : Around} {E : Value → Shared → Prop} {s : Shared} {a : Addr} {o : Obj} {es : Array (Int × Value)} {k : Nat} {tb : SetTable} {Q : Value → Shared → Prop}
    (hx : s.heap.get? a = some o) (hc : o.cls = .type "set") (hdat : o.data = .set es k tb) (hd : o.dict = none)
    (h : ∀ tk, Q (.ref s.heap.objs.size) { s with heap := s.heap.push { cls := .type "builtin_function_or_method", data := .fields #[.builtin "set.__contains__", .ref a] }, toks := tk }) :
    wpAny (model prog w) A (getAttr (.ref a) (Str.ofString "__contains__") true) Q E s := by
  obtain ⟨c, dct, dat, sl⟩ := o
  simp only at hc hdat hd
  subst hc hdat hd
  obtain ⟨hp, g, d, tk, os⟩ := s
  have hT : ∀ tk', (⟨hp, g, d, tk', os⟩ : Shared).TypeIs (.ref a) "set" := fun _ => ⟨_, hx, rfl⟩
  have f3 := F.slot_set_getattribute.lookup
  have f4 := F.slot_set_getattribute.bind (.ref a)
  unfold getAttr getAttrBy
  repeat (any_goals (first | assumption | exact hT _ | ((with_reducible show wpAny _ _ (call (Value.builtin "set.__getattribute__") _ _) _ _ _); refine call_meets F.slot_set_getattribute (hT _) am_entry_set_getattribute (args_set_ga _ _) (meets_set_contains a es k tb sl _) ⟨hx, fun tk' => ?_⟩) | wp_step))
  show wpAny (model prog w) A (handedOut _) Q E _
  unfold handedOut
  exact wpAny_pure (h _)
theorem sub_set_module : isSubtype (.type "set") (.type "module") = pure false := by rw [isSubtype_type]; kernel_rfl
theorem sub_set_type : isSubtype (.type "set") (.type "type") = pure false := by rw [isSubtype_type]; kernel_rfl
theorem noVar_contains : Manifest.varargsMethods.contains "set.__contains__" = false := by decide +kernel
set_option maxHeartbeats 2000000 in
theorem check_bound_contains {M : Model} {A : Around} {E : Value → Shared → Prop} {s : Shared} {a : Addr} {es : Array (Int × Value)} {k : Nat} {tb : SetTable} {sl : Array (Option Value)} {key : Value} {Q : Unit → Shared → Prop} (hx : s.heap.get? a = some { cls := .type "set", dict := none, data := .set es k tb, slots := sl }) (h : Q () s) :
    wpAny M A (checkBoundCall "set.__contains__" ⟨[.ref a, key], []⟩) Q E s := by
  obtain ⟨hp, g, d, tk, os⟩ := s
  have hT : (⟨hp, g, d, tk, os⟩ : Shared).TypeIs (.ref a) "set" := ⟨_, hx, rfl⟩
  have k1 := kind_set_contains
  unfold checkBoundCall
  have l1 := sub_set_module
  have l2 := sub_set_type
  repeat (any_goals (first | assumption | (rw [noVar_contains]) | wp_step))
theorem quiet_contains {as : Args} : (Code.builtin "set.__contains__" as).quiet = true := Code.quiet_builtin _ (by decide +kernel)
theorem setO_of {prog : Program} {w : World} {K : Type} [DecidableEq K] {knd : KeyKind prog w K} {h : Heap} {d : Addr} {led : Bool} (hd : h.get? d = some (setO led)) : h.SetOf knd d (fun _ => false) 0 :=
  ⟨setO led, #[], 0, SetTable.fresh 0 0 led, hd, ⟨rfl, rfl, rfl⟩, rfl, (by intro e he; cases he), (by intro k; simp), (by decide), (by cases led <;> rfl), rfl⟩
theorem call_bound_contains {prog : Program} {w : World} {A : Around} {E : Value → Shared → Prop} {s : Shared} {h₀ : Heap} {L : Addr} {news : List (Addr × Obj)} {K : Type} [DecidableEq K] {knd : KeyKind prog w K} {k : K} {key : Value} {q d : Addr} {led : Bool} {Q : Value → Shared → Prop}
    (N : News h₀ L s.heap news) (hq : (q, bfm "set.__contains__" d) ∈ news) (hp : (d, setO led) ∈ news) (hkey : knd.is k key = true) (hsc : key.scannable = true) (h : Q (.bool false) { s with toks := s.toks + 1 }) :
    wpAny (model prog w) A (call (.ref q) [key]) Q E s := by
  have hqs := (N _ hq).1
  have hds := (N _ hp).1
  have hS : s.heap.SetOf knd d (fun _ => false) 0 := setO_of hds
  refine wpAny_call (codeAny_of_tree ?_)
  show wpAny _ A.in1 (callAny (.ref q) ⟨[key], []⟩) _ _ s
  simp only [callAny]
  refine wpAny_bind (wpAny_load hqs ?_)
  simp only [bfm]
  refine KFB.if_so (by decide) ?_
  refine wpAny_bind (check_bound_contains hds ?_)
  refine wpAny_bind (wpAny_pure (wpAny_pure ?_))
  refine ⟨quiet_contains, codeAny_builtin entry_set_contains ?_⟩
  rw [Around.under_plainId PySem.F.slot_set_contains.plain]
  unfold Builtin.«frozenset.__contains__» Builtin.Frozenset.oneOther
  simp only [List.isEmpty_nil, bind_assoc]
  unfold Builtin.Frozenset.addrOf Builtin.Frozenset.withSetAsKey setContains
  refine wpAny_bind (wpAny_pure ?_)
  try dsimp only
  refine wpAny_bind (wpAny_pure ?_)
  try dsimp only
  refine wpAny_bind (wpAny_tryCatch ?_)
  refine wpAny_holding ?_
  refine wpAny_bind (knd.pyHash hkey ?_)
  refine wpAny_bind (wpAny_setFind_of (s := { s with toks := s.toks + 1 }) hkey hsc hS fun r hr => ?_)
  refine wpAny_pure ?_
  show wpAny _ _ (ret (Value.bool r.isSome)) _ _ _
  rw [hr]
  exact wpAny_pure h
end Mine
end
section
open PySem PySem.W PyProof.Rows PySem.Spec PySem.Calls PyProof.V
namespace Mine
theorem fp_value : ∀ (c : List (Int × Int)) (kvs : List (Int × Value)), FlatPairs PyData.int kvs (kdfD c) → ∀ (k e : Int) (te : Tok), ∃ t, (valueAt kvs k).getD (.int e te) = .int (kdfLook c k e) t
  | [], kvs, h, k, e, te => by
    have h' : FlatPairs PyData.int kvs [] := h
    cases h'
    exact ⟨te, rfl⟩
  | (i, v) :: c, kvs, h, k, e, te => by
    have h' : FlatPairs PyData.int kvs ((PyData.int i, PyData.int v) :: kdfD c) := h
    cases h' with
    | @cons k' x d kvs' D hx hr =>
      by_cases q : i = k
      · subst q
        obtain ⟨t, ht⟩ := PyProof.V.Flat.int_inv hx
        refine ⟨t, ?_⟩
        simp [valueAt, kdfLook, ht]
      · obtain ⟨t, ht⟩ := fp_value c kvs' hr k e te
        refine ⟨t, ?_⟩
        simpa [valueAt, kdfLook, q] using ht
section
variable {prog : Program} {w : World} {A : Around} {E : Value → Shared → Prop} {s : Shared} {h₀ : Heap} {L : Addr} {m : Str → Option Value} {news : List (Addr × Obj)}
theorem attr_dict_get {K : Type} [DecidableEq K] {knd : KeyKind prog w K} {kvs : List (K × Value)} {d : Addr} {o : Obj} {Q : Value → Shared → Prop} (F : Fr h₀ L s.heap m) (N : News h₀ L s.heap news) (hp : (d, o) ∈ news) (hd : o.IsDictOf knd kvs)
    (h : ∀ (q : Addr) (h' : Heap) (tk : Nat), AllLt q news → Fr h₀ L h' m → News h₀ L h' ((q, bfm "dict.get" d) :: news) → Q (.ref q) { s with heap := h', toks := tk }) :
    wpAny (model prog w) A (getAttr (.ref d) (Str.ofString "get") true) Q E s := by
  have hds := (N _ hp).1
  obtain ⟨es, ep, hex, hdat, _⟩ := hd
  obtain ⟨e1, e2, e3⟩ := hex
  exact getAttr_dict_get hds e1 hdat e2 fun tk => h _ _ tk (allLt_of fun p hp => Heap.lt_size (N p hp).1) (F.push _) (N.push F _)
theorem attr_set_contains {d : Addr} {led : Bool} {Q : Value → Shared → Prop} (F : Fr h₀ L s.heap m) (N : News h₀ L s.heap news) (hp : (d, setO led) ∈ news)
    (h : ∀ (q : Addr) (h' : Heap) (tk : Nat), AllLt q news → Fr h₀ L h' m → News h₀ L h' ((q, bfm "set.__contains__" d) :: news) → Q (.ref q) { s with heap := h', toks := tk }) :
    wpAny (model prog w) A (getAttr (.ref d) (Str.ofString "__contains__") true) Q E s :=
  getAttr_set_contains (N _ hp).1 rfl rfl rfl fun tk => h _ _ tk (allLt_of fun p hp => Heap.lt_size (N p hp).1) (F.push _) (N.push F _)
theorem bget_int {kvs : List (Int × Value)} {c : List (Int × Int)} {q d : Addr} {o : Obj} {k e : Int} {tk te : Tok} {Q : Value → Shared → Prop} (N : News h₀ L s.heap news) (hq : (q, bfm "dict.get" d) ∈ news) (hp : (d, o) ∈ news)
    (hd : o.IsDictOf (PySem.intKind prog w) kvs) (hf : FlatPairs PyData.int kvs (kdfD c)) (lo : (d == sysModules) = false) (h : ∀ t, Q (.int (kdfLook c k e) t) { s with toks := s.toks + 1 }) :
    wpAny (model prog w) A (call (.ref q) [.int k tk, .int e te]) Q E s :=
  call_bound_get N hq hp hd lo (intKind_is _ _ _ _) _ rfl (by
    obtain ⟨t, ht⟩ := fp_value c kvs hf k e te
    rw [ht]
    exact h t)
theorem bcont_str {q d : Addr} {led : Bool} {x : Str} {tx : Tok} {Q : Value → Shared → Prop} (N : News h₀ L s.heap news) (hq : (q, bfm "set.__contains__" d) ∈ news) (hp : (d, setO led) ∈ news)
    (h : Q (.bool false) { s with toks := s.toks + 1 }) : wpAny (model prog w) A (call (.ref q) [.str x tx]) Q E s :=
  call_bound_contains (knd := PySem.strKind prog w) N hq hp (strKind_is _ _ _ _) rfl h
end
noncomputable def BStands (id : String) (d u : Addr) (h : Heap) : Prop := h.get? u = some (bfm id d)
section
variable {M : Model} {A : Around} {E : Value → Shared → Prop} {s : Shared} {h₀ : Heap} {L : Addr} {news : List (Addr × Obj)}
theorem bst_of {id : String} {d u : Addr} {h : Heap} (N : News h₀ L h news) (hm : (u, bfm id d) ∈ news) : BStands id d u h := N.get hm
theorem callWith_bfm0 {pos : Pos} {id : String} {d u : Addr} {first : List Value} {args : List (Bool × Sem Value)} {Q : Value → Shared → Prop} (hplain : args.any (·.1) = false)
    (h : wpAny M A (evalArgs (.ref u) true args []) (fun x s₁ => BStands id d u s₁.heap ∧ wpAny M A (call (.ref u) (first ++ x.pos) x.kw) Q E s₁) E s) : wpAny M A (callWith pos (.ref u) first args []) Q E s := by
  unfold callWith
  refine wpAny_bind (wpAny_holding (wpAny_mono h (fun x s₁ h₁ => wpAny_bind (wpAny_standAt ?_)) fun _ _ x => x))
  obtain ⟨ho, hcall⟩ := h₁
  simp only [hplain, List.any_nil, Bool.or_false]
  refine wpAny_bind (m := keeperOf (.ref u)) ?_
  unfold keeperOf
  refine wpAny_bind (wpAny_load ho ?_)
  simp only [bfm, show (Value.type "builtin_function_or_method" != Value.type "method") = true by decide, show (Value.type "builtin_function_or_method" == Value.type "builtin_function_or_method" || Value.type "builtin_function_or_method" == Value.type "method-wrapper") = true by decide, if_true]
  refine wpAny_pure ?_
  exact wpAny_bind (wpAny_mono hcall (fun r s₂ hr => wpAny_bind (wpAny_holding (wpAny_point (wpAny_pure hr)))) fun _ _ x => x)
theorem callWith_bfm {pos : Pos} {id : String} {d u : Addr} {first : List Value} {env : Env} {e : PySem.Expr} {rest : List PySem.Expr} {Q : Value → Shared → Prop} (_N : News h₀ L s.heap news) (_hm : (u, bfm id d) ∈ news)
    (h : wpAny M A (spliced (backTo pos (starEach (e :: rest) env))) (fun vs s₁ => BStands id d u s₁.heap ∧ wpAny M A (call (.ref u) (first ++ vs) []) Q E s₁) E s)
    (he : starEach (e :: rest) env = (false, eval e env) :: starEach rest env := by rfl) (hplain : (backTo pos (starEach rest env)).any (·.1) = false := by rfl) :
    wpAny M A (callWith pos (.ref u) first (backTo pos (starEach (e :: rest) env)) []) Q E s := by
  rw [he] at h ⊢
  refine callWith_bfm0 (id := id) (d := d) (by show (false || (backTo pos (starEach rest env)).any (·.1)) = false; rw [hplain]; rfl) ?_
  exact evalArgs_plain h
end
end Mine
end
section
open PySem PySem.W PyProof.Rows PySem.Calls
set_option maxRecDepth 100000
set_option maxHeartbeats 1000000
namespace Mine
noncomputable abbrev matchV (dx : Addr) (vs : List Value) : Obj := { cls := .ref 216, dict := some dx, data := .seq vs.toArray }
theorem mt_cls (P : Params) : clsIn (HD.K P) 216 = some { name := (PySem.Str.ofString "Match"), bases := [(.type "tuple")], mro := [(.ref 216), (.type "tuple"), (.type "object")], ns := 215, qualname := (PySem.Str.ofString "Match"), hasDict := false, slotNames := [], subclasses := [], abstract := false, collection := none, hasDel := false } := by kernel_rfl
section
variable {M : Model} {h : Heap} {P : Params}
theorem mt_sub (X : (HD.K P).In h) : Looks M h (isSubtype (.ref 216) (.type "tuple")) true := looks_mroIn X (by kernel_rfl)
theorem mt_self (X : (HD.K P).In h) : Looks M h (isSubtype (.ref 216) (.ref 216)) true := looks_mroIn X (by kernel_rfl)
theorem mt_obj (X : (HD.K P).In h) : Looks M h (isSubtype (.ref 216) (.type "object")) true := looks_mroIn X (by kernel_rfl)
theorem mt_init (X : (HD.K P).In h) : Looks M h (typeLookup (.ref 216) "__init__") (some (.builtin "object.__init__")) := looks_findIn X (by kernel_rfl)
theorem mt_by (X : (HD.K P).In h) : Looks M h (Bind.madeBy (.ref 216)) none := .of_peek X (by kernel_rfl)
theorem mt_base (X : (HD.K P).In h) : Looks M h (Bind.staticBase (.ref 216)) (.type "tuple") := .of_peek X (by kernel_rfl)
theorem mt_base2 (X : (HD.K P).In h) : Looks M h (Bind.madeBy (.type "tuple")) (some "tuple.__new__") := .of_peek X (by kernel_rfl)
theorem mt_here (X : (HD.K P).In h) : Looks M h (Bind.madeHere "tuple.__new__" (.ref 216)) () := .of_peek X (by kernel_rfl)
theorem mt_isT (X : (HD.K P).In h) : Looks M h (isType (.ref 216)) true := .of_peek X (by kernel_rfl)
end
theorem mt_findNew (P : Params) : findCls (HD.K P) (.ref 216) (.type "type") "__new__" = some (.get (.builtin "staticmethod.__get__") (.ref 217) .none (.ref 216)) := by kernel_rfl
theorem mt_find0 (P : Params) : findCls (HD.K P) (.type "tuple") (.type "type") "__new__" = some (.val (.builtin "tuple.__new__")) := by kernel_rfl
theorem mt_tT : typeOf (.type "tuple") = pure (.type "type") := by kernel_rfl
theorem mt_hi : handedIn (.builtin "tuple.__new__") = true := by kernel_rfl
theorem mt_stub : Manifest.isStub "tuple" = false := by decide +kernel
theorem mt_reads (P : Params) : readsIn (HD.K P) 216 (.type "type") = true := by kernel_rfl
theorem mt_rec (P : Params) : recIn (HD.K P) 217 "staticmethod" = some [.ref 163] := by kernel_rfl
theorem mt_findMake (P : Params) : findCls (HD.K P) (.ref 216) (.type "type") "_make" = some (.get (.builtin "classmethod.__get__") (.ref 172) .none (.ref 216)) := by kernel_rfl
theorem mt_recMake (P : Params) : recIn (HD.K P) 172 "classmethod" = some [.ref 170, .bool false] := by kernel_rfl
theorem mt_check {M : Model} {h : Heap} {P : Params} (X : (HD.K P).In h) (t : Addr) : Looks M h (checkBuiltinCall "tuple.__new__" ⟨[.ref 216, .ref t], []⟩) () := .of_peek X (by kernel_rfl)
theorem mt_hasDel {M : Model} {h : Heap} {P : Params} (X : (HD.K P).In h) : Looks M h (classHasDel 216) false := .of_peek X (by kernel_rfl)
section
variable {prog : Program} {w : World} {A : Around} {E : Value → Shared → Prop} {s : Shared} {h₀ : Heap} {L : Addr} {m : Str → Option Value} {news : List (Addr × Obj)}
theorem call_tnew {t : Addr} {vs : List Value} {n : Nat} {Q : Value → Shared → Prop} (F : Fr h₀ L s.heap m) (X₀ : (HD.K w.params).In h₀) (N : News h₀ L s.heap news) (ht : (t, ({ cls := .type "tuple", data := .seq vs.toArray n } : Obj)) ∈ news) (hsz : vs.length ≤ 64)
    (h : ∀ (r dx : Addr) (h' : Heap), @LT.lt Nat _ dx r → (∀ p ∈ news, p.1 < dx) → Fr h₀ L h' m → News h₀ L h' ((r, matchV dx vs) :: (dx, emptyDict) :: news) → Q (.ref r) { s with heap := h' }) :
    wpAny (model prog w) A (call (.builtin "tuple.__new__") [.ref 216, .ref t]) Q E s := by
  have X := X₀.keeps F.keep
  have hn := (N _ ht).1
  obtain ⟨hh, g, d, tk, os⟩ := s
  dsimp only at X hn F N
  refine wpAny_call (codeAny_call_builtin PySem.F.plain_tuple_new PySem.F.entry_tuple_new ((mt_check X t).here ?_))
  have i1 := mt_isT (M := model prog w) X
  have i2 := mt_sub (M := model prog w) X
  have i3 := mt_here (M := model prog w) X
  have i4 := mt_init (M := model prog w) X
  unfold Builtin.«tuple.__new__»
  repeat ((fail_if_success (with_reducible show wpAny _ _ (collect (Value.ref _)) _ _ _)); (first | simp only [Bool.not_true, Bool.false_eq_true, if_false, BEq.rfl, if_true] | lk))
  refine wpAny_collect_seq (hsz := (by rw [List.size_toArray]; rw [sizeLine_eq]; exact dn10 0x3ed8000000000004000002d036040b00 (by k_ne) hsz)) t (.inr rfl) hn rfl rfl ?_
  intro h' hk
  have X2 := X.keeps hk
  have F2 := F.kept hk
  have N2 := N.grown hk
  refine wpAny_bind (wpAny_pure ?_)
  refine wpAny_bind (wpAny_alloc ?_)
  refine wpAny_bind ?_
  have e : vs.toArray.toList.toArray = vs.toArray := by simp
  rw [e]
  unfold newObj newObjAsIs
  dsimp only
  rw [if_neg (by rw [List.size_toArray, sizeLine_eq]; exact dn10 0xfbfdc0000000000001000000b76040b00 (by k_ne) hsz)]
  refine wpAny_bind (wpAny_alloc ?_)
  have X3 := X2.keeps (fun b o e => Heap.get?_push_of_some (matchV h'.objs.size vs) (Heap.get?_push_of_some emptyDict e))
  refine wpAny_bind ((mt_hasDel X3).here ?_)
  rw [if_neg (by decide)]
  refine wpAny_pure (wpAny_pure ?_)
  have N3 := (N2.push F2 emptyDict).push (F2.push emptyDict) (matchV h'.objs.size vs)
  have e2 : (h'.push emptyDict).objs.size = h'.objs.size + 1 := by rw [Heap.size_push]
  exact h _ h'.objs.size _ (by rw [e2]; exact Nat.lt_succ_self _) (fun p hp => Heap.lt_size (N2 p hp).1) ((F2.push _).push _) N3
theorem method_tnew {pl : Sem Bool} {Q : Value × List Value → Shared → Prop} (F : Fr h₀ L s.heap m) (X₀ : (HD.K w.params).In h₀) (h : Q (.builtin "tuple.__new__", []) { s with toks := s.toks + 1 }) :
    wpAny (model prog w) A (getMethod (.type "tuple") (Str.ofString "__new__") pl) Q E s := by
  have e1 := mt_find0 w.params
  have e2 := mt_hi
  generalize HD.K w.params = K at *
  refine method_type (K := K) (T := "tuple") (name := Str.ofString "__new__") (v := .builtin "tuple.__new__") (pl := pl) (Q := Q) F ?a ?b ?c ?d ?e ?f
  case a => exact X₀
  case b => exact mt_tT
  case c => exact mt_stub
  case d => exact e1
  case e => exact e2
  case f => exact h
theorem mt_initEq : (some (Value.builtin "object.__init__") != some (Value.builtin "object.__init__")) = false := by decide +kernel
theorem mt_newNe : ((none : Option String) != some "object.__new__") = true := by decide +kernel
theorem cls_match {a b c : Value} {Q : Value → Shared → Prop} (F : Fr h₀ L s.heap m) (X₀ : (HD.K w.params).In h₀)
    (h : wpAny (model prog w) (A.under (.builtin "type.__call__" ⟨[.ref 216, a, b, c], []⟩)) (call (.ref 163) [.ref 216, a, b, c])
      (fun v s' => ∃ r dx vs, v = .ref r ∧ s'.heap.get? r = some (matchV dx vs) ∧ (HD.K w.params).In s'.heap ∧ Q v s') E { s with toks := s.toks + 1 }) :
    wpAny (model prog w) A (call (.ref 216) [a, b, c]) Q E s := by
  have X := X₀.keeps F.keep
  have hC := X 216 _ (by kernel_rfl : (HD.K w.params).lookup 216 = some (HD.o_216_0 w.params))
  have hcls := mt_cls w.params
  obtain ⟨hh, g, d, tk, os⟩ := s
  dsimp only at X hC F
  refine wpAny_call (codeAny_of_tree ?_)
  show wpAny _ _ (callAny (.ref 216) _) _ _ _
  refine nd_load hC ?_
  show wpAny _ _ (callAny.viaDunder (.ref 216) _) _ _ _
  unfold callAny.viaDunder
  have i0 : Looks (model prog w) hh (specialOf (.ref 216) "__call__") (some (.builtin "type.__call__")) := looks_specialIn X (by kernel_rfl)
  refine wpAny_bind (i0.at ?_)
  dsimp only
  rw [tc_bind]
  refine wpAny_bind (wpAny_pure (wpAny_bind (wpAny_pure ?_)))
  refine wpAny_pure (a := Fin.again (.call (.builtin "type.__call__") ⟨.ref 216 :: [a, b, c], []⟩)) (And.intro rfl ?_)
  have typ : Looks (model prog w) hh (isInstance (.ref 216) (.type "type")) true := looks_instIn X (by kernel_rfl)
  refine codeAny_call_builtin_at (Code.quiet_builtin _ (by decide +kernel)) entry_typeCall (check_slot tc_kind tc_split typ (tc_args _ _ _) ?_)
  unfold Builtin.«type.__call__»
  have hm : Looks (model prog w) hh (mroOf (.ref 216)) [(.ref 216), (.type "tuple"), (.type "object")] := (looks_clsIn X hcls).andThen .now
  have i1 := mt_by (M := model prog w) X
  repeat ((fail_if_success (with_reducible show wpAny _ _ (getAttr (Value.ref _) _) _ _ _)); (first | simp only [Bool.not_true, Bool.false_eq_true, if_false, BEq.rfl, if_true, List.isEmpty_cons] | lk))
  refine cls_sm F X₀ (mc := .type "type") (by kernel_rfl) (mt_reads _) (mt_findNew _) (mt_rec _) (by kernel_rfl) ?_
  refine wpAny_bind (wpAny_holding (wpAny_mono h ?_ fun _ _ e => e))
  rintro v s' ⟨r, dx, vs, rfl, hr, X', q⟩
  obtain ⟨hh', g', d', tk', os'⟩ := s'
  dsimp only at hr X' q
  have t1 : Looks (model prog w) hh' (typeOf (.ref r)) (.ref 216) := (Looks.ld hr).andThen .now
  have t2 := mt_self (M := model prog w) X'
  have t3 := mt_init (M := model prog w) X'
  have t4 : Looks (model prog w) hh' (isInstance (.ref r) (.ref 216)) true := t1.andThen t2
  have t5 : Looks (model prog w) hh' (specialOf (.ref r) "__init__") (some (.builtin "object.__init__")) := t1.andThen t3
  have t6 : Looks (model prog w) hh' (bindSpecial (.builtin "object.__init__") (.ref r)) (.builtin "object.__init__", [.ref r]) := Looks.of_pure (oi_bind _)
  have t7 : Looks (model prog w) hh' (isInstance (.ref r) (.type "object")) true := t1.andThen (mt_obj X')
  have t8 := mt_by (M := model prog w) X'
  refine wpAny_bind (t4.at ?_)
  simp only [Bool.not_true, Bool.false_eq_true, if_false]
  refine wpAny_bind (wpAny_holding ?_)
  unfold callSpecial?
  refine wpAny_bind (t5.at ?_)
  dsimp only
  refine wpAny_holding (wpAny_bind (t6.at ?_))
  dsimp only
  refine wpAny_bind (wpAny_call ?_)
  refine codeAny_call_builtin oi_plain entry_oi (@check_slot (model prog w) _ _ _ "object.__init__" "object" "__init__" (.ref r) [a, b, c] [] _ oi_kind oi_split t7 (by unfold argsOk; kernel_rfl) ?_)
  unfold Builtin.«object.__init__»
  dsimp only [List.cons_append, List.nil_append]
  simp only [List.isEmpty_cons, Bool.not_false, Bool.true_or, if_true]
  refine wpAny_bind (t1.at ?_)
  refine wpAny_bind (t3.at ?_)
  refine wpAny_bind (t8.at ?_)
  simp only [mt_initEq, mt_newNe, Bool.false_or, Bool.not_true, Bool.false_eq_true, if_false]
  refine wpAny_pure (wpAny_pure ?_)
  dsimp only
  simp only [bne_self_eq_false, Bool.false_eq_true, if_false]
  exact wpAny_pure q
end
end Mine
end
section
open PySem PySem.W PyProof.Rows PySem.Calls
set_option maxRecDepth 100000
set_option maxHeartbeats 1000000
namespace Mine
noncomputable def IsMt (h : Heap) (r : Addr) (vs : List Value) : Prop := ∃ o, h.get? r = some o ∧ o.cls = .ref 216 ∧ ∃ n, o.data = .seq vs.toArray n
theorem IsMt.of {h₀ h : Heap} {L r dx : Addr} {news : List (Addr × Obj)} {vs : List Value} (N : News h₀ L h news) (hr : (r, matchV dx vs) ∈ news) : IsMt h r vs := ⟨_, (N _ hr).1, rfl, _, rfl⟩
theorem IsMt.extBut {h h' : Heap} {a b : Addr} {vs : List Value} (x : IsMt h a vs) (hs : Heap.ExtBut b h h') (hab : a ≠ b) : IsMt h' a vs := let ⟨o, ho, r⟩ := x; ⟨o, hs a o hab ho, r⟩
theorem IsMt.push {h : Heap} {a : Addr} {vs : List Value} (x : IsMt h a vs) (o : Obj) : IsMt (h.push o) a vs := let ⟨o', ho, r⟩ := x; ⟨o', Heap.get?_push_of_some o ho, r⟩
theorem IsMt.lt {h : Heap} {a : Addr} {vs : List Value} (x : IsMt h a vs) : a < h.objs.size := let ⟨_, ho, _⟩ := x; Heap.lt_size ho
theorem IsMt.type {M : Model} {h : Heap} {a : Addr} {vs : List Value} (x : IsMt h a vs) : Looks M h (typeOf (.ref a)) (.ref 216) := by
  obtain ⟨o, ho, hc, _⟩ := x
  exact hc ▸ (show Looks M h (typeOf (.ref a)) o.cls from (Looks.ld ho).andThen .now)
section
variable {prog : Program} {w : World} {A : Around} {E : Value → Shared → Prop} {s : Shared} {r : Addr} {vs : List Value} {rest : List Value} {name : Str} {id n : String} {b : Builtin}
theorem mt_call {Q : Value → Shared → Prop} (X : (HD.K w.params).In s.heap) (hr : IsMt s.heap r vs) (hp : plainId id = true) (hk : builtinKind id = some .slot) (hs : splitId id = some ("tuple", n)) (hb : entryFor table id = some b) (ha : argsOk id ⟨.ref r :: rest, []⟩)
    (h : wpAny (model prog w) A.in1 (b ⟨.ref r :: rest, []⟩) (fun fin s' => ∃ v, fin = .done (.ret v) ∧ Q v s') E s) : wpAny (model prog w) A (call (.builtin id) (.ref r :: rest)) Q E s := by
  have hi : Looks (model prog w) s.heap (isInstance (.ref r) (.type "tuple")) true := hr.type.andThen (mt_sub X)
  refine wpAny_call (codeAny_call_builtin hp hb (check_slot hk hs hi ha (wpAny_mono h (fun fin s' h' => ?_) fun _ _ h' => h')))
  obtain ⟨v, rfl, hv⟩ := h'
  exact hv
theorem mt_special {t : Option Value} (X : (HD.K w.params).In s.heap) (hr : IsMt s.heap r vs) (hf : findIn (HD.K w.params) (.ref 216) name = some t) : Looks (model prog w) s.heap (specialOf (.ref r) name) t :=
  hr.type.andThen (looks_findIn X hf)
theorem mt_callSp {Q : Option Value → Shared → Prop} (X : (HD.K w.params).In s.heap) (hr : IsMt s.heap r vs) (hf : findIn (HD.K w.params) (.ref 216) name = some (some (.builtin id))) (hbd : bindSpecial (.builtin id) (.ref r) = pure (.builtin id, [.ref r]))
    (h : wpAny (model prog w) A (call (.builtin id) (.ref r :: rest)) (fun v => Q (some v)) E s) : wpAny (model prog w) A (callSpecial? (.ref r) name rest) Q E s := by
  unfold callSpecial?
  refine wpAny_bind ((mt_special X hr hf).here ?_)
  dsimp only
  rw [hbd]
  exact wpAny_holding (wpAny_bind (wpAny_pure (wpAny_bind (wpAny_mono h (fun v s' h' => wpAny_pure h') fun _ _ h' => h'))))
theorem mt_ifB {Q : Option Value → Shared → Prop} (X : (HD.K w.params).In s.heap) (hr : IsMt s.heap r vs) (hf : findIn (HD.K w.params) (.ref 216) name = some (some (.builtin id))) (hbd : bindSpecial (.builtin id) (.ref r) = pure (.builtin id, [.ref r]))
    (h : wpAny (model prog w) A (call (.builtin id) (.ref r :: rest)) (fun v => Q (some v)) E s) : wpAny (model prog w) A (callSpecialIfBound? (.ref r) name rest) Q E s := by
  simp only [callSpecialIfBound?, bindSpecialIfBound?]
  refine wpAny_holding (wpAny_bind (wpAny_bind ((mt_special X hr hf).here ?_)))
  dsimp only
  rw [hbd]
  refine wpAny_bind (wpAny_askSetting (wpAny_ite ?_))
  have fin : wpAny (model prog w) A (call (.builtin id) ([.ref r] ++ rest) >>= fun v => pure (some v)) Q E s := wpAny_bind (wpAny_mono h (fun v s' h' => wpAny_pure h') fun _ _ h' => h')
  split
  · exact wpAny_bind (wpAny_pure (wpAny_pure (by exact fin)))
  · exact wpAny_tryCatch (wpAny_bind (wpAny_pure (wpAny_pure (by exact fin))))
theorem mt_items {Q : Array Value → Shared → Prop} (hr : IsMt s.heap r vs) (h : Q vs.toArray s) : wpAny (model prog w) A (Builtin.Tuple.tupleItemsOf (.ref r)) Q E s := by
  obtain ⟨o, ho, _, k, hd⟩ := hr
  unfold Builtin.Tuple.tupleItemsOf
  exact wpAny_bind (wpAny_seqItems ho hd (wpAny_pure h))
theorem mt_fLen (P : Params) : findIn (HD.K P) (.ref 216) (Str.ofString "__len__") = some (some (.builtin "tuple.__len__")) := by kernel_rfl
theorem mt_fIter (P : Params) : findIn (HD.K P) (.ref 216) (Str.ofString "__iter__") = some (some (.builtin "tuple.__iter__")) := by kernel_rfl
theorem mt_fLt (P : Params) : findIn (HD.K P) (.ref 216) (Str.ofString "__lt__") = some (some (.builtin "tuple.__lt__")) := by kernel_rfl
theorem mt_kLen : builtinKind "tuple.__len__" = some .slot := by decide +kernel
theorem mt_sLen : splitId "tuple.__len__" = some ("tuple", "__len__") := by decide +kernel
theorem mt_kIter : builtinKind "tuple.__iter__" = some .slot := by decide +kernel
theorem mt_sIter : splitId "tuple.__iter__" = some ("tuple", "__iter__") := by decide +kernel
theorem mt_kLt : builtinKind "tuple.__lt__" = some .slot := by decide +kernel
theorem mt_sLt : splitId "tuple.__lt__" = some ("tuple", "__lt__") := by decide +kernel
theorem mt_eLt : entryFor table "tuple.__lt__" = some Builtin.«tuple.__lt__» := entryFor_of_tree (by kernel_rfl)
theorem mt_pLt : plainId "tuple.__lt__" = true := by decide +kernel
theorem mt_aLt (a b : Value) : argsOk "tuple.__lt__" ⟨[a, b], []⟩ := by unfold argsOk; kernel_rfl
theorem mt_bLt (self : Value) : bindSpecial (.builtin "tuple.__lt__") self = pure (.builtin "tuple.__lt__", [self]) := by
  kernel_rfl!
theorem mt_len {Q : Value → Shared → Prop} (X : (HD.K w.params).In s.heap) (hr : IsMt s.heap r vs) (hz : vs.length ≤ 64) (h : ∀ t u, Q (.int vs.length t) { s with toks := u }) : wpAny (model prog w) A (call (.builtin "len") [.ref r]) Q E s := by
  refine Calls.call_function_entry kind_len plain_len entry_len (args_len1 _) ?_
  unfold Builtin.«len»
  have hsz : vs.toArray.size = vs.length := by simp
  refine wpAny_bind (m := oneArg "len" _) (wpAny_pure ?_)
  refine wpAny_bind (m := callSpecial? (.ref r) (Str.ofString "__len__")) (mt_callSp X hr (mt_fLen _) (slot_tuple_len.bind _) (mt_call X hr slot_tuple_len.plain mt_kLen mt_sLen entry_tuple_len (args_tuple_len _) ?_))
  show wpAny _ _ (do retInt (← Builtin.Tuple.tupleItemsOf (.ref r)).size) _ _ s
  refine wpAny_bind (mt_items hr ?_)
  rw [hsz]
  refine wpAny_bind (wpAny_mkInt (wpAny_pure ⟨_, rfl, ?_⟩))
  refine wpAny_bind (wpAny_holding (wpAny_pure ?_))
  refine wpAny_bind (wpAny_letGo ?_)
  show wpAny _ _ (if ((vs.length : Nat) : Int) < 0 then _ else _) _ _ _
  rw [if_neg (by exact dn10 0x3fe8cd00 (by k_ne))]
  show wpAny _ _ (if ((vs.length : Nat) : Int) ≥ 2 ^ 63 then _ else _) _ _ _
  rw [if_neg (by exact dn10 0x3eff9d00fc2bb6040b00 (by k_ne) hz)]
  exact wpAny_bind (wpAny_mkInt (wpAny_pure ⟨_, rfl, h _ _⟩))
theorem mt_iter {Q : Value → Shared → Prop} (X : (HD.K w.params).In s.heap) (hr : IsMt s.heap r vs)
    (hQ : Q (.ref s.heap.objs.size) { s with heap := s.heap.push { cls := .type "tuple_iterator", data := .fields #[.ref r, .int 0 0] } }) : wpAny (model prog w) A (pyIter (.ref r)) Q E s := by
  unfold pyIter
  refine wpAny_bind ((mt_special X hr (mt_fIter _)).here ?_)
  show wpAny _ _ (callSpecialIfBoundUnlessNone? (.ref r) "__iter__" _ >>= _) _ _ _
  refine wpAny_bind ?_
  unfold callSpecialIfBoundUnlessNone? bindSpecialIfBound?
  refine wpAny_holding (wpAny_bind (wpAny_bind ((mt_special X hr (mt_fIter _)).here ?_)))
  dsimp only
  rw [slot_tuple_iter.bind]
  have fin : wpAny (model prog w) A (call (.builtin "tuple.__iter__") [.ref r]) (fun v s' => ∃ T' q, s'.TypeIs v T' ∧ typeLookup (.type T') "__next__" = pure (some q) ∧ Q v s') E s := by
    refine mt_call X hr slot_tuple_iter.plain mt_kIter mt_sIter entry_tuple_iter (args_tuple_iter _) ?_
    show wpAny _ _ (do ret (← newFields "tuple_iterator" [.ref r, rawInt 0])) _ _ s
    exact wpAny_bind (wpAny_newObj_type (wpAny_pure ⟨_, rfl, "tuple_iterator", _, ⟨_, Heap.get?_push_size _ rfl, rfl⟩, slot_tupleiter_next.lookup, hQ⟩))
  refine wpAny_bind (wpAny_askSetting (wpAny_ite ?_))
  split
  · refine wpAny_bind (wpAny_pure (wpAny_pure ?_))
    dsimp only
    rw [if_neg (by decide)]
    refine wpAny_bind (wpAny_mono fin (fun v s' h' => wpAny_pure ?_) fun _ _ e => e)
    obtain ⟨T', q, hT, hl, hq⟩ := h'
    exact wpAny_bind (wpAny_specialOf hT hl (wpAny_pure hq))
  · refine wpAny_tryCatch (wpAny_bind (wpAny_pure (wpAny_pure ?_)))
    dsimp only
    rw [if_neg (by decide)]
    refine wpAny_bind (wpAny_mono fin (fun v s' h' => wpAny_pure ?_) fun _ _ e => e)
    obtain ⟨T', q, hT, hl, hq⟩ := h'
    exact wpAny_bind (wpAny_specialOf hT hl (wpAny_pure hq))
theorem mt_next {it : Addr} {i : Nat} {x : Value} {Q : Option Value → Shared → Prop} (hit : IsTupIter s.heap it r i) (hr : IsMt s.heap r vs) (hx : vs[i]? = some x)
    (hQ : ∀ h', IsTupIter h' it r (i + 1) → Heap.SameBut it s.heap h' → Q (some x) { s with heap := h' }) : wpAny (model prog w) A (pyNext (.ref it)) Q E s := by
  obtain ⟨o, ho, hc, hd⟩ := id hit
  obtain ⟨ol, hol, _, nl, hdl⟩ := hr
  have hx' : vs.toArray[i]? = some x := by simpa using hx
  unfold pyNext
  refine wpAny_bind (wpAny_attempt (wpAny_callSpecial?_slot (name := Str.ofString "__next__") hit.typeIs slot_tupleiter_next
    (wpAny_call_entry slot_tupleiter_next hit.typeIs entry_tupleiter_next ?_ (args_tupleiter_next _))))
  show wpAny _ _ (field (.ref it) 0 >>= _) _ _ s
  refine wpAny_bind (wpAny_field ho hd (x := .ref r) rfl ?_)
  show wpAny _ _ (if (Value.ref r == Value.none) = true then _ else _) _ _ s
  rw [if_neg (show ¬ ((Value.ref r == Value.none) = true) from Bool.false_ne_true)]
  show wpAny _ _ (field (.ref it) 1 >>= _) _ _ s
  refine wpAny_bind (wpAny_field ho hd (x := .int i 0) rfl ?_)
  show wpAny _ _ (seqItems? (.ref r) >>= _) _ _ s
  refine wpAny_bind (wpAny_seqItems hol hdl ?_)
  simp only [Int.toNat_natCast, hx']
  refine wpAny_bind (wpAny_setField ho hd (by simp) (wpAny_pure ⟨x, rfl, wpAny_pure (hQ _ ?_ (Heap.SameBut.update ..))⟩))
  exact ⟨_, Heap.get?_update_self _ ho (Obj.isFreed_of_fields (Obj.data_mapFields hd _)), (Obj.cls_mapFields ..).trans hc, by
    rw [Obj.data_mapFields hd]; simp [rawInt]⟩
theorem mt_end {it : Addr} {i : Nat} {Q : Option Value → Shared → Prop} (hh : A.handled = none) (hit : IsTupIter s.heap it r i) (hr : IsMt s.heap r vs) (hx : vs[i]? = none)
    (hQ : ∀ h', Heap.ExtBut it s.heap h' → Q none { s with heap := h' }) : wpAny (model prog w) A (pyNext (.ref it)) Q E s := by
  obtain ⟨o, ho, hc, hd⟩ := id hit
  obtain ⟨ol, hol, _, nl, hdl⟩ := hr
  have hx' : vs.toArray[i]? = none := by simpa using hx
  unfold pyNext
  refine wpAny_bind (wpAny_attempt (wpAny_callSpecial?_slot (name := Str.ofString "__next__") hit.typeIs slot_tupleiter_next
    (wpAny_call_entry slot_tupleiter_next hit.typeIs entry_tupleiter_next ?_ (args_tupleiter_next _))))
  show wpAny _ _ (field (.ref it) 0 >>= _) _ _ s
  refine wpAny_bind (wpAny_field ho hd (x := .ref r) rfl ?_)
  show wpAny _ _ (if (Value.ref r == Value.none) = true then _ else _) _ _ s
  rw [if_neg (show ¬ ((Value.ref r == Value.none) = true) from Bool.false_ne_true)]
  show wpAny _ _ (field (.ref it) 1 >>= _) _ _ s
  refine wpAny_bind (wpAny_field ho hd (x := .int i 0) rfl ?_)
  show wpAny _ _ (seqItems? (.ref r) >>= _) _ _ s
  refine wpAny_bind (wpAny_seqItems hol hdl ?_)
  simp only [Int.toNat_natCast, hx']
  refine wpAny_bind (wpAny_rule (wpAny_bind (wpAny_setField ho hd (by simp) ?_)))
  show wpAny _ _ (newExc (.type "StopIteration") [] >>= _) _ _ _
  refine wpAny_bind ?_
  simp only [newExc, newTuple]
  refine wpAny_bind (wpAny_newObj_type ?_ (by size_fits))
  refine wpAny_bind (m := firstArgMember _ _) (wpAny_of_eq (a := Value.none) (by first | rfl | (simp only [firstArgMember]; rfl)) ?_)
  refine wpAny_newObj_type ?_ (by size_fits)
  simp only [raiseNew]
  refine wpAny_bind (wpAny_handled ?_)
  first | rw [show A.in1.handled = none from hh] | rw [hh]
  refine wpAny_bind (wpAny_pure (wpAny_throw ?_))
  refine wpAny_bind (wpAny_isInstance (T := "StopIteration") (b := true) ⟨_, Heap.get?_push_size _ rfl, rfl⟩ isSubtype_stop ?_)
  exact wpAny_pure (hQ _ (((Heap.SameBut.update ..).extBut.push _).push _))
theorem mt_draw {it : Addr} (hne : r ≠ it) : ∀ (k i : Nat) (s : Shared) (Q : List Value → Shared → Prop), IsTupIter s.heap it r i → IsMt s.heap r vs → i + k ≤ vs.length →
    (∀ h', IsTupIter h' it r (i + k) → Heap.SameBut it s.heap h' → Q ((vs.drop i).take k) { s with heap := h' }) → wpAny (model prog w) A (draw (.ref it) k) Q E s
  | 0, i, s, Q, hit, _, _, hQ => by
    show wpAny _ _ (pure []) Q E s
    exact wpAny_pure (by simpa using hQ s.heap hit (Heap.SameBut.refl ..))
  | k + 1, i, s, Q, hit, ht, hle, hQ => by
    have hlt : i < vs.length := by exact dn30 0x3edc20360afbcd040 (by k_ne) hle
    show wpAny _ _ (pyNext (.ref it) >>= _) Q E s
    refine wpAny_bind (mt_next hit ht (x := vs[i]) (by simp [hlt]) fun h₁ hit₁ hs₁ => ?_)
    refine wpAny_bind (wpAny_holding (mt_draw hne k (i + 1) _ _ hit₁ (ht.extBut hs₁.extBut hne) (by exact dn30 0x3ed82bc1bcd0360afbcd040 (by k_ne) hle) fun h₂ hit₂ hs₂ => wpAny_pure ?_))
    have hd : vs.drop i = vs[i] :: vs.drop (i + 1) := by simp
    have := hQ h₂ (by rw [show i + (k + 1) = i + 1 + k by exact dn20 0x38bc1bcd02fbcd040 (by k_ne)]; exact hit₂) (hs₁.trans hs₂)
    rw [hd, List.take_succ_cons] at this
    exact this
theorem mt_unpackItems {Q : List Value → Shared → Prop} {k : Nat} (hh : A.handled = none) (X : (HD.K w.params).In s.heap) (hr : IsMt s.heap r vs) (hk : k = vs.length)
    (hQ : ∀ h', Heap.ExtBut s.heap.objs.size s.heap h' → Q vs { s with heap := h' }) : wpAny (model prog w) A (unpackItems (.ref r) k none) Q E s := by
  subst hk
  have hlt : r ≠ s.heap.objs.size := Nat.ne_of_lt hr.lt
  unfold unpackItems
  refine wpAny_bind ?_
  unfold notIterableAtAll
  refine wpAny_bind ((mt_special X hr (mt_fIter _)).here ?_)
  refine wpAny_pure ?_
  simp only [Bool.false_eq_true, if_false]
  refine wpAny_bind (wpAny_holding (mt_iter X hr ?_))
  refine wpAny_bind (wpAny_holding (mt_draw hlt vs.length 0 _ _ ⟨_, Heap.get?_push_size _ rfl, rfl, rfl⟩ (hr.push _) (by exact dn10 0x3602f00c (by k_ne)) fun h₁ hit₁ hs₁ => ?_))
  have hall : List.take vs.length (List.drop 0 vs) = vs := by rw [List.drop_zero]; exact List.take_of_length_le (Nat.le_refl _)
  rw [hall]
  rw [if_neg (by simp)]
  have ht₁ : IsMt h₁ r vs := (hr.push _).extBut hs₁.extBut hlt
  refine wpAny_bind (wpAny_holding (mt_end hh hit₁ ht₁ (by simp) fun h₂ he₂ => ?_))
  simp only [Option.isSome_none, Bool.false_eq_true, if_false]
  exact wpAny_pure (hQ h₂ fun b o hb e => he₂ b o hb (hs₁.extBut b o hb (Heap.get?_push_of_some _ e)))
theorem mt_unpack {h₀ : Heap} {L dx : Addr} {m : Str → Option Value} {news : List (Addr × Obj)} {elts : List Expr} {k : Nat} {pos : Pos} {env : Env} {Q : Unit → Shared → Prop} (F : Fr h₀ L s.heap m) (X₀ : (HD.K w.params).In h₀) (N : News h₀ L s.heap news) (hm : (r, matchV dx vs) ∈ news) (hh : A.handled = none)
    (hn : (assignEach elts env).length = vs.length) (hstar : (assignEach elts env).findIdx? (·.1) = none)
    (h : ∀ h', Fr h₀ L h' m → News h₀ L h' news → wpAny (model prog w) A (assignInOrder ((assignEach elts env).map (·.2)) vs) Q E { s with heap := h' }) :
    wpAny (model prog w) A (assign (.Tuple elts k pos) env (.ref r)) Q E s := by
  rw [assign_Tuple]
  refine wpAny_bind (wpAny_standAt ?_)
  unfold unpack
  rw [hn, hstar]
  exact wpAny_bind (wpAny_holding (mt_unpackItems hh (X₀.keeps F.keep) (.of N hm) rfl fun h' he => h h' (F.extBut he (Nat.le_refl _)) (N.extBut he (Nat.le_refl _))))
theorem mt_lt {a b : Addr} {ia ib : Int} {ta tb : Tok} {ra rb : List Value} {Q : Bool → Shared → Prop} (hu : A.units < cLine) (X : (HD.K w.params).In s.heap) (ha : IsMt s.heap a (.int ia ta :: ra)) (hb : IsMt s.heap b (.int ib tb :: rb)) (hne : ia ≠ ib)
    (h : Q (decide (ia < ib)) s) : wpAny (model prog w) A (keyLt' oneType' (.ref a) (.ref b)) Q E s := by
  rw [keyLt'_oneType, oneLt'_eq]
  simp only [if_true]
  refine wpAny_bind (wpAny_cRoomFor hu ?_)
  refine wpAny_bind (mt_ifB X ha (mt_fLt _) (mt_bLt _) (mt_call X ha mt_pLt mt_kLt mt_sLt mt_eLt (mt_aLt _ _) ?_))
  have hi : Looks (model prog w) s.heap (isInstance (.ref b) (.type "tuple")) true := hb.type.andThen (mt_sub X)
  show wpAny _ _ (isInstance (.ref b) (.type "tuple") >>= _) _ _ s
  refine wpAny_bind (hi.here ?_)
  simp only [Bool.not_true, Bool.false_eq_true, if_false]
  refine wpAny_bind (mt_items ha (wpAny_bind (mt_items hb ?_)))
  rw [show (Value.int ia ta :: ra).toArray.toList.zip (Value.int ib tb :: rb).toArray.toList = (Value.int ia ta, Value.int ib tb) :: ra.zip rb from rfl, List.forIn_cons]
  refine wpAny_bind (wpAny_bind (wpAny_bind (wpAny_eqBool_int ?_)))
  rw [beq_eq_false_iff_ne.mpr hne]
  simp only [Bool.not_false, if_true]
  refine wpAny_bind (wpAny_rule (wpAny_bind ?_))
  refine (wpAny_lt_int (a := ia) (b := ib) ?_ : wpAny (model prog w) A.in1 (compareOp .Lt (.int ia ta) (.int ib tb)) _ _ _)
  refine wpAny_bind (wpAny_pure (wpAny_pure (wpAny_pure (wpAny_pure ⟨_, rfl, ?_⟩))))
  exact wpAny_truthy_bool h
end
end Mine
end
section
open PySem PySem.W PyProof.Rows
namespace Mine
theorem freshMc : True := by
  k_with_none
  w_top off
  (try (have _h : ∀ (M : Model) (A : Around) (Q : Flow → _) (E : Value → _) (s : Shared) (e : Env), wpAny M A (execs [] e) Q E s := by (intros; walk1; fail "no")))
  k_with "omega" => (first | with_reducible assumption | exact rm1 (by with_reducible assumption) rfl | exact rm2 (by with_reducible assumption) rfl | exact rm3 (by with_reducible assumption) rfl | exact rm4 (by with_reducible assumption) rfl | exact rm0 (by with_reducible assumption) | with_reducible exact ⟨by with_reducible assumption, by with_reducible assumption⟩ | with_reducible exact Or.inl (by with_reducible assumption) | with_reducible exact Or.inr (by with_reducible assumption) | with_reducible exact i1 (by decide) | with_reducible exact i2 | with_reducible exact i3 | with_reducible exact i4 (by decide) | with_reducible exact j1 (by with_reducible assumption) (by decide) | with_reducible exact j2 (by with_reducible assumption) (by decide) | with_reducible exact i5 (by with_reducible assumption) (by decide) | with_reducible exact i6 (by with_reducible assumption) (by decide) | with_reducible exact i7 (by with_reducible assumption))
  trivial
theorem wordsMc_1 : True := by
  k_with "call type:type" => ((with_reducible show wpAny _ _ (call _ [Value.bytes _ _]) _ _ _); refine PySem.call_type_of (Tx := "bytes") rfl (by decide +kernel) ?_)
  k_with "k_all" => (exact neLow (by assumption))
  k_with "k_steps" => (repeat' ((fail_if_success (with_reducible show InvEndN _ _ _ _ _ _ _)); (fail_if_success (with_reducible show InvEndG _ _ _ _ _ _)); (fail_if_success (with_reducible show UnrEndW _ _ _ _ _ _)); (first | (k_unfold; (try dsimp only)) | (k_end; kc_close) | walk1 | (dsimp only; walk1) | (leave1; walk_say "STEP leave1"; (try dsimp only)) | fail "no step")))
  k_with "k_all" => (with_reducible assumption)
  k_with "k_all" => (exact neOfLt (by assumption))
  k_with "getMethod type:tuple" => (k_here; (with_reducible show wpAny _ _ (getMethod (Value.type "tuple") _ _) _ _ _); k_dflt (refine' method_tnew ?mnF ?mnX ?_; (case mnF => k_asm); (case mnX => k_asm); k_whole))
  k_with "call builtin:tuple.__new__" => (k_here; (with_reducible show wpAny _ _ (call (Value.builtin "tuple.__new__") [Value.ref 216, Value.ref _]) _ _ _); k_dflt (refine' call_tnew ?tnF ?tnX ?tnN ?tnM ?tnS ?_; (case tnF => k_asm); (case tnX => k_asm); (case tnN => k_asm); (case tnM => k_mem); (case tnS => (simp only [List.length_cons, List.length_nil]; decide)); k_whole); intro _ _ _ _ _ _ _; (try k_sweep))
  k_with "call builtin:len" => (k_here; (with_reducible show wpAny _ _ (call (Value.builtin "len") [Value.ref _]) _ _ _); k_dflt (refine' mt_len ?mlX (IsMt.of ?mlN ?mlM) ?mlZ ?_; (case mlX => exact Frag.In.keeps (by k_asm) (Fr.keep (by k_asm))); (case mlN => k_asm); (case mlM => k_mem); (case mlZ => (simp only [List.length_cons, List.length_nil]; decide)); k_whole); intro _ _)
  trivial
theorem units_tc16 (A : Around) (args : Args) : (A.under (.builtin "type.__call__" args)).units = A.units + 1 := rfl
noncomputable abbrev ConC (w : World) (k : Nat) (base : Heap) (news : News0) (f : Value) (args : List Value) (Ret : (Value → News0 → Prop) → Prop) : Prop :=
  ∀ (p : Program) (loose : List Str) (mean : ExcName → Option Value) (mg mb : Str → Option Value)
    (dp un : Nat) (gd : Option (List Code)) (cn : Str) (cs : Scope) (a : Addr) (ccd : Value) (cl : List (Str × Addr)) (outer : List Env) (A₀ : Around) (h₀ : Heap) (L : Addr) (m : Str → Option Value) (s : Shared)
    (Q E : Value → Shared → Prop), Below A₀ base outer h₀ → Fr h₀ L s.heap m → (HD.K w.params).In h₀ → News h₀ L s.heap news → Top p loose mean mg mb h₀ → cs.kind = .function →
    dp + k < recursionLimit → un + 8 * k < cLine →
    Ret (fun r news' => ∀ (h' : Heap) (tk' : Nat), Fr h₀ L h' m → News h₀ L h' news' → Q r { s with heap := h', toks := tk' }) →
    codeAny (model PG w) (ktrTop dp un gd cn cs L a ccd cl outer) (.call f ⟨args, []⟩) (fun r s' => match r with | .ok (.ret v) => Q v s' | .ok _ => False | .error e => E e s') s
theorem ConC.useA {w : World} {k : Nat} {base : Heap} {news : News0} {f : Value} {args : List Value} {Ret : (Value → News0 → Prop) → Prop} (C : ConC w k base news f args Ret)
    {p : Program} {loose : List Str} {mean : ExcName → Option Value} {mg mb : Str → Option Value} {A : Around}
    {cn : Str} {cs : Scope} {a : Addr} {ccd : Value} {cl : List (Str × Addr)} {outer : List Env} {A₀ : Around} {h₀ : Heap} {L : Addr} {m : Str → Option Value} {s : Shared}
    {Q E : Value → Shared → Prop} (hh : A.handled = none) (hf : A.frames = some (envX cn cs L a ccd cl :: outer)) (B : Below A₀ base outer h₀) (F : Fr h₀ L s.heap m) (X : (HD.K w.params).In h₀) (N : News h₀ L s.heap news) (T : Top p loose mean mg mb h₀) (hk : cs.kind = .function)
    (hd : A.depth + k < recursionLimit) (hu : A.units + 8 * k < cLine)
    (hret : Ret (fun r news' => ∀ (h' : Heap) (tk' : Nat), Fr h₀ L h' m → News h₀ L h' news' → Q r { s with heap := h', toks := tk' })) :
    codeAny (model PG w) A (.call f ⟨args, []⟩) (fun r s' => match r with | .ok (.ret v) => Q v s' | .ok _ => False | .error e => E e s') s := by
  obtain ⟨hd0, dp, fr, gd, un⟩ := A
  dsimp only at hh hf
  subst hh
  subst hf
  exact C p loose mean mg mb dp un gd cn cs a ccd cl outer A₀ h₀ L m s Q E B F X N T hk hd hu hret
section
variable {w : World} {base : Heap} {news : News0}
set_option maxRecDepth 100000
set_option maxHeartbeats 8000000
theorem c_mnew (i j k : Int) (ti tj tk : Tok) : Con w 1 base news (call (.ref 163) [.ref 216, .int i ti, .int j tj, .int k tk])
    (fun G => ∀ (r dx : Addr), @LT.lt Nat _ dx r → (∀ p ∈ news, p.1 < dx) → G (.ref r) ((r, matchV dx [.int i ti, .int j tj, .int k tk]) :: (dx, emptyDict) :: news)) := by
  intro p loose mean mg mb dp un gd cn cs a ccd cl outer A₀ h₀ L m s Q E B F X N T hk hd hu hret
  obtain ⟨ck, cns, cg, cc, cm⟩ := cs
  cases hk
  refine wpAny_call ?_
  k_dflt k_enter
  k_steps
  rename Fr h₀ L _ m => kF
  rename News h₀ L _ _ => kN
  rename ∀ p ∈ _ :: news, _ => hl
  exact hret _ _ (by assumption) (fun p hp => hl p (.tail _ hp)) _ _ kF (fun p hp => kN p (by rcases List.mem_cons.mp hp with rfl | hp; exact .head _; rcases List.mem_cons.mp hp with rfl | hp; exact .tail _ (.head _); exact .tail _ (.tail _ (.tail _ hp))))
theorem c_match (i j k : Int) (ti tj tk : Tok) : Con w 2 base news (call (.ref 216) [.int i ti, .int j tj, .int k tk])
    (fun G => ∀ (r dx : Addr), @LT.lt Nat _ dx r → (∀ p ∈ news, p.1 < dx) → G (.ref r) ((r, matchV dx [.int i ti, .int j tj, .int k tk]) :: (dx, emptyDict) :: news)) := by
  intro p loose mean mg mb dp un gd cn cs a ccd cl outer A₀ h₀ L m s Q E B F X N T hk hd hu hret
  obtain ⟨ck, cns, cg, cc, cm⟩ := cs
  refine cls_match F X ?_
  refine Con.useA (c_mnew i j k ti tj tk) rfl rfl B F X N T hk ?_ ?_ ?_
  · ktr_room
  · have hcL9 := cLine_is
    rw [units_tc16]
    dsimp only [ktrTop]
    exact dn20 0x3edc1bf1354bcd03706fc4e500 (by k_ne) hu
  intro r dx l1 l2 h' tk' F' N'
  exact ⟨r, dx, _, rfl, (N' _ (.head _)).1, X.keeps F'.keep, hret r dx l1 l2 _ _ F' N'⟩
theorem c_make (t : Addr) (a b c : Value) (n : Nat) (hm : (t, ({ cls := .type "tuple", data := .seq [a, b, c].toArray n } : Obj)) ∈ news) : ConC w 1 base news (.ref 170) [.ref 216, .ref t]
    (fun G => ∀ (r dx : Addr), @LT.lt Nat _ dx r → (∀ p ∈ news, p.1 < dx) → G (.ref r) ((r, matchV dx [a, b, c]) :: (dx, emptyDict) :: news)) := by
  intro p loose mean mg mb dp un gd cn cs a ccd cl outer A₀ h₀ L m s Q E B F X N T hk hd hu hret
  obtain ⟨ck, cns, cg, cc, cm⟩ := cs
  cases hk
  k_dflt k_enter
  k_steps
  rename Fr h₀ L _ m => kF
  rename News h₀ L _ _ => kN
  exact hret _ _ (by assumption) (by assumption) _ _ kF kN
end
end Mine
end
section
open PySem PySem.W PyProof.Rows
namespace Mine
theorem freshC15 : True := by
  k_with_none
  w_top off
  (try (have _h : ∀ (M : Model) (A : Around) (Q : Flow → _) (E : Value → _) (s : Shared) (e : Env), wpAny M A (execs [] e) Q E s := by (intros; walk1; fail "no")))
  k_with "omega" => (first | with_reducible assumption | exact rm1 (by with_reducible assumption) rfl | exact rm2 (by with_reducible assumption) rfl | exact rm3 (by with_reducible assumption) rfl | exact rm4 (by with_reducible assumption) rfl | exact rm0 (by with_reducible assumption) | with_reducible exact ⟨by with_reducible assumption, by with_reducible assumption⟩ | with_reducible exact Or.inl (by with_reducible assumption) | with_reducible exact Or.inr (by with_reducible assumption) | with_reducible exact i1 (by decide) | with_reducible exact i2 | with_reducible exact i3 | with_reducible exact i4 (by decide) | with_reducible exact j1 (by with_reducible assumption) (by decide) | with_reducible exact j2 (by with_reducible assumption) (by decide) | with_reducible exact i5 (by with_reducible assumption) (by decide) | with_reducible exact i6 (by with_reducible assumption) (by decide) | with_reducible exact i7 (by with_reducible assumption))
  trivial
theorem wordsC15_1 : True := by
  k_with "call type:type" => ((with_reducible show wpAny _ _ (call _ [Value.bytes _ _]) _ _ _); refine PySem.call_type_of (Tx := "bytes") rfl (by decide +kernel) ?_)
  k_with "k_all" => (exact neLow (by assumption))
  k_with "k_steps" => (repeat' ((fail_if_success (with_reducible show InvEndN _ _ _ _ _ _ _)); (fail_if_success (with_reducible show InvEndG _ _ _ _ _ _)); (fail_if_success (with_reducible show UnrEndW _ _ _ _ _ _)); (fail_if_success (with_reducible show wpAny _ _ (pyIter _) _ _ _)); (fail_if_success (with_reducible show wpAny _ _ (exec (Stmt.While _ _ _ _) _) _ _ _)); (first | (k_unfold; (try dsimp only)) | (k_end; kc_close) | walk1 | (dsimp only; walk1) | (leave1; walk_say "STEP leave1"; (try dsimp only)) | fail "no step")))
  k_with "ite" => (first | with_reducible refine ite_tt ?_ | with_reducible refine ite_ff ?_ | (with_reducible refine ieq_yes ?_ ?_; (focus (first | lia | omega))) | (with_reducible refine ieq_no ?_ ?_; (focus (first | lia | omega))) | (with_reducible refine ine_yes ?_ ?_; (focus (first | lia | omega))) | (with_reducible refine ine_no ?_ ?_; (focus (first | lia | omega))) | (with_reducible refine idec_yes ?_ ?_; (focus (first | lia | omega))) | (with_reducible refine idec_no ?_ ?_; (focus (first | lia | omega))))
  k_with "call builtin:len" => (k_here; (with_reducible show wpAny _ _ (call (Value.builtin "len") [Value.str _ _]) _ _ _); k_dflt (refine P.len_str ?lnf ?_; (case lnf => (first | lia | omega))))
  k_with "k_all" => (with_reducible assumption)
  k_with "k_all" => (exact neOfLt (by assumption))
  trivial
theorem sub_cons {a : Addr × Obj} {l all : News0} (h : a ∈ all) (t : ∀ p ∈ l, p ∈ all) : ∀ p ∈ a :: l, p ∈ all := fun p hp => by
  rcases List.mem_cons.mp hp with e | hp
  · rw [e]; exact h
  · exact t p hp
theorem wl_false {prog : Program} {w : World} {A : Around} {E : Value → Shared → Prop} {s : Shared} {env : Env} {test : PySem.Expr} {body : List Stmt} {pos : Pos} {Q : Flow → Shared → Prop} (hE : PassesOwn (model prog w) A env E)
    (h1 : wpAny (model prog w) A (isTrue test env (eval test env)) (fun b s₂ => b = false ∧ ∃ tk, s₂ = { s with toks := tk }) E s) (h2 : ∀ tk, Q .next { s with toks := tk }) :
    wpAny (model prog w) A (exec (.While test body [] pos) env) Q E s := by
  refine whl_start 1 (whl_turn hE (wpAny_mono h1 ?_ fun _ _ e => e))
  rintro b s₂ ⟨rfl, tk, rfl⟩
  refine WhlIf.no rfl ?_
  exact wpAny_pure (h2 tk)
theorem nm_cons {P : Str × Value → Prop} {a : Str × Value} {l : List (Str × Value)} (h : P a) (t : ∀ p ∈ l, P p) : ∀ p ∈ a :: l, P p := fun p hp => by
  rcases List.mem_cons.mp hp with e | hp
  · rw [e]; exact h
  · exact t p hp
theorem wordsC15_3 : True := by
  k_with "getAttr ref" => (k_here; (with_reducible show wpAny _ _ (getAttr (Value.ref _) (Str.ofString "__contains__") true) _ _ _); k_dflt (refine attr_set_contains (by k_asm) (by k_asm) (by k_mem) ?_); intro _ _ _ _ _ _; (try k_sweep))
  k_with "getAttr ref" => (k_here; (with_reducible show wpAny _ _ (getAttr (Value.ref _) (Str.ofString "get") true) _ _ _); k_dflt (refine attr_dict_get (knd := PySem.intKind _ _) (by k_asm) (by k_asm) (by k_mem) (by k_asm) ?_); intro _ _ _ _ _ _; (try k_sweep))
  k_with "callWith ref" => (k_here; (with_reducible show wpAny _ _ (callWith _ (Value.ref _) _ (backTo _ (starEach (_ :: _) _)) []) _ _ _); k_dflt (refine' callWith_bfm ?bfN ?bfM ?_; (case bfN => k_asm); (case bfM => k_mem); k_whole))
  k_with "And" => ((with_reducible show BStands _ _ _ _ ∧ _); k_dflt (refine ⟨bst_of (by k_asm) (by k_mem), ?_⟩); (try dsimp only [List.nil_append, List.cons_append]))
  k_with "call ref" => (k_here; (with_reducible show wpAny _ _ (call (Value.ref _) [Value.str _ _]) _ _ _); k_dflt (refine bcont_str (by k_asm) (by k_mem) (by k_mem) ?_))
  k_with "call ref" => (k_here; (with_reducible show wpAny _ _ (call (Value.ref _) [Value.int _ _, Value.int _ _]) _ _ _); k_dflt (refine bget_int (by k_asm) (by k_mem) (by k_mem) (by k_asm) (by k_asm) (by k_asm) ?_); intro _)
  trivial
theorem bj_get {prog : Program} {w : World} {A : Around} {E : Value → Shared → Prop} {s : Shared} {h₀ : Heap} {L : Addr} {all rest fix : News0} {db no : Addr} {ob : Obj} {kvs : List (Str × Value)} {pre : List Nat} {c : Nat} {t : Tok} {nn : Nat} {Q : Value → Shared → Prop}
    (N : News h₀ L s.heap all) (hp : (db, ob) ∈ all) (hd : ob.IsDictOf (PySem.strKind prog w) kvs) (lo : (db == sysModules) = false) (hB : B2J [] rest kvs pre) (hno : (no, listOf #[] nn) ∈ fix) (hsub : ∀ p ∈ rest, p ∈ fix)
    {z : Str} (hz : z = ⟨#[c]⟩)
    (h : ∀ (lv : Addr) (vs : List Value) (n : Nat), (lv, listOf vs.toArray n) ∈ fix → IntsAre vs (idxOf pre c) → Q (.ref lv) { s with toks := s.toks + 1 }) : wpAny (model prog w) A (call (.builtin "dict.get") [.ref db, .str z t, .ref no]) Q E s := by
  subst hz
  by_cases hc : c ∈ pre
  · obtain ⟨lc, vs, n, hv, hm, hI, _⟩ := hB.yes c hc
    exact kdg_get2 N hp hd lo (strKind_is _ _ _ _) _ hv (h lc vs n (hsub _ hm) hI)
  · refine kdg_get2 N hp hd lo (strKind_is _ _ _ _) _ (hB.no c hc) (h no [] nn hno ?_)
    rw [idxOf_nil_of hc]
    exact .nil
theorem loDb {a b c : Nat} (h1 : a < b) (h2 : b < c) : ((c : Addr) == sysModules) = false := by
  rw [beq_eq_false_iff_ne]
  intro e
  have : c = 1 := e
  exact dn30 0xfbeff8342dc2077040 (by k_ne) h1 h2 this
noncomputable abbrev FlS := List (Int × Int) × Int × Int × Int
noncomputable def jStep (blo bhi : Int) (old : List (Int × Int)) (i : Int) (s : FlS) (j : Int) : FlS :=
  if j < blo then s else if bhi ≤ j then s else
    let k := kdfLook old (j - 1) 0 + 1
    (kdfPut s.1 j k, if k > s.2.2.2 then (i - k + 1, j - k + 1, k) else s.2)
noncomputable def iStep (x y : Str) (blo bhi : Int) (s : FlS) (i : Nat) : FlS := (idxOf y.cps.toList (x.cps.getD i 0)).foldl (jStep blo bhi s.1 i) ([], s.2)
noncomputable def flF (x y : Str) (alo blo bhi n : Nat) : FlS := (List.range' alo n).foldl (iStep x y blo bhi) ([], alo, blo, 0)
theorem flF_succ (x y : Str) (alo blo bhi n : Nat) : flF x y alo blo bhi (n + 1) = iStep x y blo bhi (flF x y alo blo bhi n) (alo + n) := by
  unfold flF; rw [List.range'_concat, List.foldl_append]; simp
theorem item_at {x : Str} {k : Int} {i : Nat} (hk : k = (i : Int)) (h : i < x.length) : Txt.item x k = ⟨#[x.cps.getD i 0]⟩ := by
  subst hk
  have hs : (i : Nat) < x.cps.size := h
  exact PyProof.Rows.item_meets (by exact dn10 0xe7400c (by k_ne)) (by simp [Array.getD, hs])
theorem txt_ne {x y : Str} {k l : Int} {i j : Nat} (hk : k = (i : Int)) (hl : l = (j : Int)) (h1 : i < x.length) (h2 : j < y.length) (h : x.cps.getD i 0 ≠ y.cps.getD j 0) (e : (Txt.item x k == Txt.item y l) = true) : False := by
  rw [item_at hk h1, item_at hl h2] at e
  have e2 := eq_of_beq e
  injection e2 with e3
  have e4 := congrArg Array.toList e3
  simp at e4
  exact h (by rw [Array.getD_eq_getD_getElem?, Array.getD_eq_getD_getElem?]; exact e4)
theorem rng_up2 {a b : Nat} (h : a ≤ b) : Builtin.Range.rangeSize (a : Int) (b : Int) 1 = ((b - a : Nat) : Int) := by
  unfold Builtin.Range.rangeSize
  simp
  (first | lia | omega)
theorem idxOf_lt : ∀ (pre : List Nat) (c : Nat) (n : Int), n ∈ idxOf pre c → 0 ≤ n ∧ n < pre.length := by
  intro pre c n h
  unfold idxOf at h
  obtain ⟨p, hp, rfl⟩ := List.mem_map.mp h
  have h2 := List.mem_zipIdx' (x := p.1) (i := p.2) (List.mem_filter.mp hp).1
  exact dn20 0xfbceb4074039d00337040 (by k_ne) h2.1
theorem idxOf_sorted (c : Nat) : ∀ (n : Nat) (pre : List Nat), pre.length = n → (idxOf pre c).Pairwise (· < ·)
  | 0, pre, h => by
    have : pre = [] := List.length_eq_zero_iff.mp h
    subst this
    exact .nil
  | n + 1, pre, h => by
    rcases List.eq_nil_or_concat pre with e | ⟨q, b, e⟩
    · subst e; cases h
    · rw [List.concat_eq_append] at e
      subst e
      have hl : q.length = n := by simpa using h
      rw [idxOf_snoc]
      split
      · rw [List.pairwise_append]
        refine ⟨idxOf_sorted c n q hl, List.pairwise_singleton _ _, ?_⟩
        intro a ha b hb
        rw [List.mem_singleton.mp hb]
        exact (idxOf_lt _ _ _ ha).2
      · exact idxOf_sorted c n q hl
theorem jStep_none {blo bhi : Int} {old : List (Int × Int)} {i : Int} : ∀ (l : List Int) (s : FlS), (∀ j ∈ l, bhi ≤ j) → l.foldl (jStep blo bhi old i) s = s
  | [], _, _ => rfl
  | j :: l, s, h => by
    have e : jStep blo bhi old i s j = s := by
      unfold jStep
      split
      · rfl
      · rw [if_pos (h j (.head _))]
    rw [List.foldl_cons, e]
    exact jStep_none l s fun k hk => h k (.tail _ hk)
theorem jStep_break {blo bhi : Int} {old : List (Int × Int)} {i n : Int} {s : FlS} {pre post l : List Int} (hs : l.Pairwise (· < ·)) (e : l = pre ++ n :: post) (h : bhi ≤ n) : pre.foldl (jStep blo bhi old i) s = l.foldl (jStep blo bhi old i) s := by
  rw [e, List.foldl_append]
  rw [e, List.pairwise_append] at hs
  refine (jStep_none _ _ fun j hj => ?_).symm
  rcases List.mem_cons.mp hj with rfl | hj
  · exact h
  · exact Int.le_trans h (Int.le_of_lt (List.rel_of_pairwise_cons hs.2.1 hj))
theorem jStep_snoc {blo bhi : Int} {old : List (Int × Int)} {i n : Int} {s : FlS} {pre : List Int} : (pre ++ [n]).foldl (jStep blo bhi old i) s = jStep blo bhi old i (pre.foldl (jStep blo bhi old i) s) n := by rw [List.foldl_append]; rfl
theorem wordsC15_4 : True := by
  k_with "call ref" => (k_here; k_dflt (refine' Con.use (c_match _ _ _ _ _ _) ?k1 ?k2 ?k3 ?k4 ?k5 ?k6 ?k7 ?k8 ?_; (case k1 => k_asm); (case k2 => k_asm); (case k3 => k_asm); (case k4 => k_asm); (case k5 => k_asm); (case k6 => exact rfl); (case k7 => ((try dsimp only [A9]); ktr_room)); (case k8 => ((try dsimp only [A9]); ktr_units)); k_whole); intro _ _ _ _ _ _ _ _; (try k_sweep))
  k_with "spliced" => (k_here; (with_reducible show wpAny _ _ (spliced (backTo _ (starEach (_ :: _) _))) _ _ _); k_dflt (refine' args_pure (g := sg) (d := sd) (o := so) ?w8a ?w8F ?w8p ?_; (case w8a => exact rfl); (case w8F => k_asm); (case w8p => exact rfl); k_whole); (dsimp only [PVK, List.cons_append, List.nil_append]); intros)
  k_with "same" => (repeat (first | with_reducible exact sameE | ((with_reducible refine kstJ ?_ ?_ ?_); rfl; rfl) | ((with_reducible refine updJ ?_ ?_); rfl) | ((with_reducible refine upLJ ?_ ?_); rfl)))
  k_with "storeName" => (k_here; k_dflt (first | (refine' storeJ (g := sg) (d := sd) (o := so) ?F ?N ?_ ?a ?b; (case F => k_asm); (case N => k_asm); (case a => rfl); (case b => rfl); k_whole; intro _ _ _ _ _ _) | (refine' storeV (g := sg) (d := sd) (o := so) ?F ?N ?_ ?a ?b; (case F => k_asm); (case N => k_asm); (case a => rfl); (case b => rfl); k_whole; intro _ _ _ _)); (try k_sweep))
  k_with "execs cons" => (k_here; (with_reducible show wpAny _ _ (execs (Stmt.If _ _ _ _ :: _) _) _ _ _); k_dflt (first | (refine' if_yes (g := sg) (d := sd) (o := so) ?w9F ?w9p ?w9P ?_ ?w9a ?w9b; (case w9F => k_asm); (case w9p => exact rfl); (case w9P => first | (first | lia | omega) | (first | exact rfl | assumption | exact ⟨by first | (first | lia | omega) | assumption, by first | exact rfl | assumption | (first | lia | omega)⟩)); (case w9a => exact rfl); (case w9b => first | dsimp only [List.cons_append, List.nil_append] | exact rfl); k_whole; intro _) | (refine' if_no (g := sg) (d := sd) (o := so) ?w9F ?w9p ?w9P ?_ ?w9a ?w9b; (case w9F => k_asm); (case w9p => exact rfl); (case w9P => first | (first | lia | omega) | (first | exact rfl | assumption | exact Or.inl (by first | (first | lia | omega) | assumption | exact rfl) | exact Or.inr (by first | (first | lia | omega) | assumption | exact rfl))); (case w9a => exact rfl); (case w9b => first | dsimp only [List.cons_append, List.nil_append] | exact rfl); k_whole; intro _)))
  k_with "execs cons" => (k_here; (with_reducible show wpAny _ _ (execs (Stmt.Assign [Expr.Name _ _] _ _ :: _) _) _ _ _); k_dflt (refine' as_int (g := sg) (d := sd) (o := so) ?w9F ?w9N ?w9p ?_ ?w9a ?w9b ?w9c; (case w9F => k_asm); (case w9N => k_asm); (case w9p => exact rfl); (case w9a => exact rfl); (case w9b => exact rfl); (case w9c => exact rfl); k_whole; intro _ _ _ _ _ _; (try k_sweep)))
  k_with "execs cons" => (k_here; (with_reducible show wpAny _ _ (execs (Stmt.Expr (Expr.Call (Expr.Attribute (Expr.Name _ _) _ _) [_] [] _) _ :: _) _) _ _ _); first | ((with_reducible show wpAny _ _ (execs (Stmt.Expr (Expr.Call _ [Expr.Tuple _ _ _] _ _) _ :: _) _) _ _ _); k_dflt (refine' app_tup (g := sg) (d := sd) (o := so) ?w5F ?w5N ?w5m ?w5q ?w5p ?w5U ?w5z ?w5v ?_ ?w5k ?w5x ?w5e ?w5i ?w5s; (case w5q => exact rfl); (case w5F => k_asm); (case w5N => k_asm); (case w5m => exact rfl); (case w5p => exact rfl); (case w5U => (intro _; k_upd)); (case w5z => first | exact Nat.le_of_ble_eq_true rfl | lia | omega | (simp only [List.length_append, List.length_cons, List.length_nil]; first | lia | omega)); (case w5v => exact Nat.le_of_ble_eq_true rfl); (case w5k => exact rfl); (case w5x => exact rfl); (case w5e => exact rfl); (case w5i => exact rfl); (case w5s => exact rfl); k_whole; intro _ _ _ _ _ w5n w5l; (try dsimp only [valw] at w5n); (try k_lt w5l))) | ((fail_if_success (with_reducible show wpAny _ _ (execs (Stmt.Expr (Expr.Call _ [Expr.Tuple _ _ _] _ _) _ :: _) _) _ _ _)); k_dflt (first | (refine' app_v (g := sg) (d := sd) (o := so) ?w5F ?w5N ?w5m ?w5q ?w5p ?w5U ?w5z ?_ ?w5k ?w5x ?w5t ?w5e ?w5i ?w5s; (case w5q => exact rfl); (case w5F => k_asm); (case w5N => k_asm); (case w5m => exact rfl); (case w5p => exact rfl); (case w5U => k_upd); (case w5z => first | exact Nat.le_of_ble_eq_true rfl | lia | omega | (simp only [List.length_append, List.length_cons, List.length_nil]; first | lia | omega)); (case w5k => exact rfl); (case w5x => exact rfl); (case w5t => exact rfl); (case w5e => exact rfl); (case w5i => exact rfl); (case w5s => exact rfl); k_whole; intro _ _ _ w5n; (try dsimp only at w5n)) | (refine' app_i (g := sg) (d := sd) (o := so) ?w5F ?w5N ?w5m ?w5q ?w5p ?w5U ?w5z ?_ ?w5k ?w5x ?w5t ?w5e ?w5i ?w5s; (case w5q => exact rfl); (case w5F => k_asm); (case w5N => k_asm); (case w5m => exact rfl); (case w5p => exact rfl); (case w5U => (intro _; k_upd)); (case w5z => first | exact Nat.le_of_ble_eq_true rfl | lia | omega | (simp only [List.length_append, List.length_cons, List.length_nil]; first | lia | omega)); (case w5k => exact rfl); (case w5x => exact rfl); (case w5t => exact rfl); (case w5e => exact rfl); (case w5i => exact rfl); (case w5s => exact rfl); k_whole; intro _ _ _ _ w5n; (try dsimp only at w5n)))); (try k_sweep))
  k_with "assignInOrder" => (k_here; k_dflt (first | (refine' asg_names (g := sg) (d := sd) (o := so) ?w6F ?w6N ?w6p ?w6l ?_ ?w6a ?w6k; (case w6F => k_asm); (case w6N => k_asm); (case w6p => exact rfl); (case w6l => exact rfl); (case w6a => exact rfl); (case w6k => exact rfl); k_whole; intro _ _ _ _ _) | (refine' asg_bind (g := sg) (d := sd) (o := so) ?w6k ?w6F ?w6N ?w6l ?_ ?w6a; (case w6F => k_asm); (case w6N => k_asm); (case w6l => exact rfl); (case w6a => exact rfl); (case w6k => exact rfl); k_whole; intro _ _ _ _ _)); (try k_sweep))
  trivial
section
variable {w : World} {base : Heap} {news : News0}
set_option maxRecDepth 100000
set_option maxHeartbeats 8000000
theorem c_flm (sf dx db sj : Addr) (ob : Obj) (kvs : List (Str × Value)) (x y : Str) (tx ty : Tok) (t1 t2 t3 t4 t5 t6 t7 t8 t9 t10 : Tok) (l1 : Bool) (vm vo vp : Value) (alo ahi blo bhi : Nat) (ta tb tc td : Tok)
    (hsf : @LT.lt Nat _ dx sf) (hdb : @LT.lt Nat _ sf db) (hkv : ob.IsDictOf (PySem.strKind PG w) kvs) (hB : B2J [] news kvs y.cps.toList) (hx : x.length ≤ 64) (hy : y.length ≤ 64) (h1 : alo ≤ ahi) (h2 : ahi ≤ x.length) (h3 : blo ≤ bhi) (h4 : bhi ≤ y.length) (i0 j0 k0 : Nat) (hS : (flF x y alo blo bhi (ahi - alo)).2 = ((i0 : Int), (j0 : Int), (k0 : Int))) (g1 : alo ≤ i0) (g2 : i0 + k0 ≤ ahi) (g3 : blo ≤ j0) (g4 : j0 + k0 ≤ bhi) (hL : i0 ≤ alo ∨ j0 ≤ blo ∨ x.cps.getD (i0 - 1) 0 ≠ y.cps.getD (j0 - 1) 0) (hRR : ahi ≤ i0 + k0 ∨ bhi ≤ j0 + k0 ∨ x.cps.getD (i0 + k0) 0 ≠ y.cps.getD (j0 + k0) 0) :
    Con w 6 base ((sj, setO l1) :: (db, ob) :: (sf, instObj 323 dx) :: (dx, dictOf [en w "isjunk" t1 .none, en w "a" t2 (.str x tx), en w "b" t3 (.str y ty), en w "autojunk" t4 (.bool true), en w "matching_blocks" t5 vm, en w "opcodes" t6 vo, en w "fullbcount" t7 .none, en w "b2j" t8 (.ref db), en w "bjunk" t9 (.ref sj), en w "bpopular" t10 vp] 10) :: news) (call (.ref 277) [.ref sf, .int alo ta, .int ahi tb, .int blo tc, .int bhi td])
    (fun G => ∀ (r dm : Addr) (ti tj tk : Tok), @LT.lt Nat _ dm r → (∀ p ∈ news, p.1 < dm) → G (.ref r) ((r, matchV dm [.int i0 ti, .int j0 tj, .int k0 tk]) :: (dm, emptyDict) :: news)) := by
  refine Con.mk2 ?_
  intro p loose mean mg mb dp un gd cn cns cg cc cm a ccd cl outer A₀ h₀ L m sh sg sd sk so Q E B F X N T hd hu hret
  refine wpAny_call ?_
  k_dflt k_enter
  have hMk := kstMark
  (rename Fr _ _ _ _ => lFe); refine fr_let lFe ?_; clear lFe; intro me lFe
  refine let_A ?_
  intro A9
  k_steps
  rename_i qb _ _ ltq _ _ _ _ _ _ _ _ _ _ _ _ _ _ _ _ d0 _ o0 lo0 hs0 fs0 hi0 fi0 ltd _ _ no _ ltn _ _ _ _ _ _ _ _ _ _ hR lF' lN' _
  have lod : (db == sysModules) = false := loDb hsf hdb
  have hq1 := ltq.1
  have hq2 := ltq.2.1
  have hq5 := allLt_mem _ ltq.2.2.2.2
  dsimp only at hq1 hq2
  have hn1 : @LT.lt Nat _ qb no := by (first | lia | omega)
  have hn5 : ∀ p ∈ news, p.1 < no := fun p hp => Nat.lt_trans (hq5 p hp) hn1
  have hd1 : @LT.lt Nat _ qb d0 := by exact dn20 0x3edc1037040 (by k_ne) ltd.2.2.1
  have hd5 : ∀ p ∈ news, p.1 < d0 := fun p hp => Nat.lt_trans (hq5 p hp) hd1
  k_dflt (with_unfolding_all refine' kj_range (n := ahi - alo) (σ := (Addr × Obj × List (Int × Value)) × FlS × Tok × Tok × Tok) (fun c => (c.1.1, c.1.2.1) :: (no, listOf #[] 0) :: (qb, bfm "set.__contains__" sj) :: (sj, setO l1) :: (db, ob) :: news) (fun c => [(Str.ofString "j2len", .ref c.1.1), (Str.ofString "besti", .int c.2.1.2.1 c.2.2.1), (Str.ofString "bestj", .int c.2.1.2.2.1 c.2.2.2.1), (Str.ofString "bestsize", .int c.2.1.2.2.2 c.2.2.2.2)]) ["i", "j2lenget", "newj2len", "j", "k"] (fun i c => c.2.1 = flF x y alo blo bhi i ∧ c.1.2.1.IsDictOf (intKind PG w) c.1.2.2 ∧ PyProof.V.FlatPairs PyData.int c.1.2.2 (kdfD c.2.1.1) ∧ (c.1.1 == sysModules) = false ∧ c.1.1 ≠ no ∧ c.1.1 ≠ qb ∧ c.1.1 ≠ sj ∧ c.1.1 ≠ db ∧ ∀ p ∈ news, p.1 ≠ c.1.1) ((d0, o0, []), ([], (alo : Int), (blo : Int), 0), (_, _, _)) (by rfl) hR ?small ?size (by decide) lF' (fun p hp => lN' p ?led) ?ps ?P0 ?offx ?turn ?done)
  case small => exact PySem.small_one (by exact dn10 0x39d00d7e0ae (by k_ne)) (by exact dn30 0xfbefbaf82bb4076002d82076040b00 (by k_ne) hx h1 h2) (by exact dn10 0x39d00d7e0ae (by k_ne)) (by exact dn20 0xfbeebe0aed01d80076040b00 (by k_ne) hx h2)
  case size => exact rng_up2 h1
  case led =>
    rcases List.mem_cons.mp hp with rfl | hp
    · k_mem
    rcases List.mem_cons.mp hp with rfl | hp
    · k_mem
    rcases List.mem_cons.mp hp with rfl | hp
    · k_mem
    rcases List.mem_cons.mp hp with rfl | hp
    · k_mem
    rcases List.mem_cons.mp hp with rfl | hp
    · k_mem
    (repeat (first | exact hp | refine List.Mem.tail _ ?_))
  case ps =>
    refine fall_cons (by rfl) ?_
    refine fall_cons (by rfl) ?_
    refine fall_cons (by rfl) ?_
    refine fall_cons (by rfl) ?_
    exact fun _ h => nomatch h
  case P0 => exact ⟨rfl, hi0, fi0, lo0, by k_ne, by k_ne, by k_ne, by k_ne, fun p hp => Nat.ne_of_lt (hd5 p hp)⟩
  case offx =>
    intro c p hp
    rcases List.mem_cons.mp hp with rfl | hp
    · exact (by decide : Str.ofString "j2len" ≠ Str.ofString "i")
    rcases List.mem_cons.mp hp with rfl | hp
    · exact (by decide : Str.ofString "besti" ≠ Str.ofString "i")
    rcases List.mem_cons.mp hp with rfl | hp
    · exact (by decide : Str.ofString "bestj" ≠ Str.ofString "i")
    rcases List.mem_cons.mp hp with rfl | hp
    · exact (by decide : Str.ofString "bestsize" ≠ Str.ofString "i")
    cases hp
  case turn =>
    intro I o1 c8
    refine match c8 with | ⟨⟨d9, o9, kv9⟩, S9, ti9, tj9, tz9⟩ => ?_
    intro i k9 tk8 u9 h9 tk9 hk9 hi9 hoff hP18 F9 N9
    refine opqG fun G8 hG8 => ?_
    obtain ⟨hC9, hD9, hF9, lo9, hne1, hne2, hne3, hne4, hne5⟩ := hP18
    refine hG8 ?_
    clear hG8 G8
    dsimp only at hC9 hD9 hF9 lo9 hne1 hne2 hne3 hne4 hne5 F9 N9 hoff
    refine fr_let F9 ?_
    clear F9
    intro mf9 F9
    refine opqQ fun RR hRR => ?_
    obtain rfl : k9 = ((alo + i : Nat) : Int) := by exact dn21 0xfbbd2f04003bbf4074000 (by k_ne) hk9
    have hix : alo + i < x.length := by exact dn40 0x3efb706f083df00c00b6040 (by k_ne) h2 hi9
    have hI1 := hoff _ (.head _)
    have hI2 := hoff _ (.tail _ (.head _))
    have hI3 := hoff _ (.tail _ (.tail _ (.head _)))
    have hI4 := hoff _ (.tail _ (.tail _ (.tail _ (.head _))))
    have hI5 := hoff _ (.tail _ (.tail _ (.tail _ (.tail _ (.head _)))))
    have hI6 : ∀ p ∈ news, p.1 ≠ I := fun p hp => hoff p (.tail _ (.tail _ (.tail _ (.tail _ (.tail _ hp)))))
    dsimp only at hI1 hI2 hI3 hI4 hI5
    k_steps
    rename_i qg _ _ ltg _ _ _ _ nd _ no1 lon _ _ hin fin ltn1 _ _ lF1 lN1 _ _
    k_dflt (refine' bj_get (fix := (no, listOf #[] 0) :: (qb, bfm "set.__contains__" sj) :: (sj, setO l1) :: (db, ob) :: news) lN1 (by k_mem) hkv lod hB (.head _) (fun p hp => .tail _ (.tail _ (.tail _ (.tail _ hp)))) (item_at rfl hix) ?_)
    intro lv vs nv hmv hIv
    have hns : (idxOf y.cps.toList (x.cps.getD (alo + i) 0)).length ≤ 64 := Nat.le_trans (idxOf_len _ _) (by rw [Array.length_toList]; exact hy)
    k_dflt (with_unfolding_all refine' kst_listL (σ := (Obj × List (Int × Value)) × FlS × Tok × Tok × Tok) (fun c => (nd, c.1.1) :: (qg, bfm "dict.get" d9) :: (I, o1) :: (d9, o9) :: (no, listOf #[] 0) :: (qb, bfm "set.__contains__" sj) :: (sj, setO l1) :: (db, ob) :: news) (fun c => [(Str.ofString "besti", .int c.2.1.2.1 c.2.2.1), (Str.ofString "bestj", .int c.2.1.2.2.1 c.2.2.2.1), (Str.ofString "bestsize", .int c.2.1.2.2.2 c.2.2.2.2)]) (fun c => c.1.1.IsDictOf (intKind PG w) c.1.2 ∧ PyProof.V.FlatPairs PyData.int c.1.2 (kdfD c.2.1.1)) ["k"] (fun pre c => c.2.1 = pre.foldl (jStep blo bhi S9.1 ((alo + i : Nat) : Int)) ([], S9.2) ∧ c.2.1.1.length ≤ pre.length) ((no1, []), ([], S9.2), (ti9, tj9, tz9)) (by rfl) (fun c => .tail _ (.tail _ (.tail _ (.tail _ hmv)))) hIv lF1 lN1 ⟨hin, fin⟩ ?ps2 ⟨rfl, Nat.le_refl _⟩ ?turn2 ?done2)
    case ps2 =>
      refine fall_cons (by rfl) ?_
      refine fall_cons (by rfl) ?_
      refine fall_cons (by rfl) ?_
      exact fun _ h => nomatch h
    case turn2 =>
      intro c8
      refine match c8 with | ⟨⟨on, kn⟩, SS, tA, tB, tC⟩ => ?_
      intro pre post n8 t8 u8 h8 tk7 own8 hsp8 hmem8 hown8 hP18 hP28 F8 N8
      refine opqG fun G8 hG8 => ?_
      obtain ⟨hd8, hf8⟩ := hP18
      obtain ⟨hc8, hl8⟩ := hP28
      refine hG8 ?_
      clear hG8 G8
      clear lF1 lN1
      dsimp only at hd8 hf8 hc8 hl8 F8 N8
      refine fr_let F8 ?_
      clear F8
      intro mf9 F8
      refine opqQ fun RR2 hRR2 => ?_
      simp only [List.cons_append] at N8
      have hpl : pre.length ≤ 64 := by
        have := congrArg List.length hsp8
        rw [List.length_append] at this
        exact dn30 0x3efb6040b01e2f081036040b00 (by k_ne) hns this
      have hcl : SS.1.length ≤ 16777216 := by exact dn20 0x3efb6000000000001000000b40d8102c076040 (by k_ne) hl8 hpl
      by_cases hjb : n8 < (blo : Int)
      · k_steps
        rename Fr _ _ _ _ => F7
        rename News _ _ _ _ => N7
        refine hRR2 _ _ ?_; (show InvEndN _ _ _ _ _ _ _); refine' kst_end ((on, kn), SS, (tA, tB, tC)) F7 N7 ?hn ?ho ?ha ⟨hd8, hf8⟩ ?hk ?hr ⟨?p1, ?p2⟩
        case ha => rfl
        case hn => (((try dsimp only); (repeat ((with_reducible refine sub_cons ?_ ?_); (focus k_mem))); exact fun p hp => by (repeat (first | (with_reducible exact hp) | (with_reducible exact List.mem_append_left _ hp) | (with_reducible refine List.mem_cons_of_mem _ ?_)))))
        case ho => (intro p hp; (repeat (first | exact List.mem_append_right _ hp | refine List.mem_cons_of_mem _ ?_)))
        case hk => (((repeat (refine nm_cons ?nmh ?_; (case nmh => exact rfl))); exact fun _ hp => nomatch hp))
        case hr =>
          refine sameK ?_
          k_extra "same"
        case p1 =>
          rw [jStep_snoc, ← hc8]
          unfold jStep
          rw [if_pos hjb]
        case p2 => rw [List.length_append]; exact Nat.le_trans hl8 (Nat.le_add_right _ _)
      · by_cases hjh : (bhi : Int) ≤ n8
        · k_steps
          refine hRR2 _ _ ?_
          k_steps
          rename Fr _ _ _ _ => F7
          rename News _ _ _ _ => N7
          refine hRR _ _ ?_; (show UnrEndW _ _ _ _ _ _); refine' kj_end ((nd, on, kn), SS, (tA, tB, tC)) F7 N7 ?hI ?hn ?off ?hk ?hr ⟨?q1, hd8, hf8, lon, ?q2, ?q3, ?q4, ?q5, ?q6⟩
          case hI => k_mem
          case hn => (((try dsimp only); (repeat ((with_reducible refine sub_cons ?_ ?_); (focus k_mem))); exact fun p hp => by (repeat (first | (with_reducible exact hp) | (with_reducible exact List.mem_append_left _ hp) | (with_reducible refine List.mem_cons_of_mem _ ?_)))))
          case off =>
            refine fall_cons (by k_ne) ?_
            exact fun p hp => hoff p (.tail _ hp)
          case hk => (((repeat (refine nm_cons ?nmh ?_; (case nmh => exact rfl))); exact fun _ hp => nomatch hp))
          case hr =>
            refine sameJ ?_
            k_extra "same"
          case q1 =>
            show SS = _
            rw [flF_succ, ← hC9]
            unfold iStep
            exact hc8.trans (jStep_break (idxOf_sorted _ _ _ rfl) hsp8 hjh)
          case q2 => k_ne
          case q3 => k_ne
          case q4 => k_ne
          case q5 => k_ne
          case q6 => exact fun p hp => Nat.ne_of_lt (allLt_mem _ ltn1.2.2.2.2.2.2.2 p hp)
        · by_cases hgt : kdfLook S9.1 (n8 - 1) 0 + 1 > SS.2.2.2
          · k_steps
            rename Fr _ _ _ _ => F7
            rename News _ _ _ _ => N7
            rename Obj.IsDictOf _ _ _ => hd7
            rename PyProof.V.FlatPairs _ _ _ => hf7
            refine hRR2 _ _ ?_; (show InvEndN _ _ _ _ _ _ _); refine' kst_end ((_, _), (kdfPut SS.1 n8 (kdfLook S9.1 (n8 - 1) 0 + 1), ((alo + i : Nat) : Int) - (kdfLook S9.1 (n8 - 1) 0 + 1) + 1, n8 - (kdfLook S9.1 (n8 - 1) 0 + 1) + 1, kdfLook S9.1 (n8 - 1) 0 + 1), (_, _, _)) F7 N7 ?hn ?ho ?ha ⟨hd7, hf7⟩ ?hk ?hr ⟨?p1, ?p2⟩
            case ha => rfl
            case hn => (((try dsimp only); (repeat ((with_reducible refine sub_cons ?_ ?_); (focus k_mem))); exact fun p hp => by (repeat (first | (with_reducible exact hp) | (with_reducible exact List.mem_append_left _ hp) | (with_reducible refine List.mem_cons_of_mem _ ?_)))))
            case ho => (intro p hp; (repeat (first | exact List.mem_append_right _ hp | refine List.mem_cons_of_mem _ ?_)))
            case hk => (((repeat (refine nm_cons ?nmh ?_; (case nmh => exact rfl))); exact fun _ hp => nomatch hp))
            case hr =>
              refine sameK ?_
              k_extra "same"
            case p1 =>
              rw [jStep_snoc, ← hc8]
              unfold jStep
              rw [if_neg hjb, if_neg hjh]; dsimp only; rw [if_pos hgt]
            case p2 => exact Nat.le_trans (kdfPut_len _ _ _) (by rw [List.length_append]; exact Nat.succ_le_succ hl8)
          · k_steps
            rename Fr _ _ _ _ => F7
            rename News _ _ _ _ => N7
            rename Obj.IsDictOf _ _ _ => hd7
            rename PyProof.V.FlatPairs _ _ _ => hf7
            refine hRR2 _ _ ?_; (show InvEndN _ _ _ _ _ _ _); refine' kst_end ((_, _), (kdfPut SS.1 n8 (kdfLook S9.1 (n8 - 1) 0 + 1), SS.2), (tA, tB, tC)) F7 N7 ?hn ?ho ?ha ⟨hd7, hf7⟩ ?hk ?hr ⟨?p1, ?p2⟩
            case ha => rfl
            case hn => (((try dsimp only); (repeat ((with_reducible refine sub_cons ?_ ?_); (focus k_mem))); exact fun p hp => by (repeat (first | (with_reducible exact hp) | (with_reducible exact List.mem_append_left _ hp) | (with_reducible refine List.mem_cons_of_mem _ ?_)))))
            case ho => (intro p hp; (repeat (first | exact List.mem_append_right _ hp | refine List.mem_cons_of_mem _ ?_)))
            case hk => (((repeat (refine nm_cons ?nmh ?_; (case nmh => exact rfl))); exact fun _ hp => nomatch hp))
            case hr =>
              refine sameK ?_
              k_extra "same"
            case p1 =>
              rw [jStep_snoc, ← hc8]
              unfold jStep
              rw [if_neg hjb, if_neg hjh]; dsimp only; rw [if_neg hgt]
            case p2 => exact Nat.le_trans (kdfPut_len _ _ _) (by rw [List.length_append]; exact Nat.succ_le_succ hl8)
    case done2 =>
      intro c8
      refine match c8 with | ⟨⟨on, kn⟩, SS, tA, tB, tC⟩ => ?_
      intro u8 h8 tk7 hP18 hP28 F8 N8
      refine opqG fun G8 hG8 => ?_
      obtain ⟨hd8, hf8⟩ := hP18
      obtain ⟨hc8, hl8⟩ := hP28
      refine hG8 ?_
      clear hG8 G8
      clear lF1 lN1
      dsimp only at hd8 hf8 hc8 hl8 F8 N8
      refine fr_let F8 ?_
      clear F8
      intro mf9 F8
      k_steps
      rename Fr _ _ _ _ => F7
      rename News _ _ _ _ => N7
      refine hRR _ _ ?_; (show UnrEndW _ _ _ _ _ _); refine' kj_end ((nd, on, kn), SS, (tA, tB, tC)) F7 N7 ?hI ?hn ?off ?hk ?hr ⟨?q1, hd8, hf8, lon, ?q2, ?q3, ?q4, ?q5, ?q6⟩
      case hI => k_mem
      case hn => (((try dsimp only); (repeat ((with_reducible refine sub_cons ?_ ?_); (focus k_mem))); exact fun p hp => by (repeat (first | (with_reducible exact hp) | (with_reducible exact List.mem_append_left _ hp) | (with_reducible refine List.mem_cons_of_mem _ ?_)))))
      case off =>
        refine fall_cons (by k_ne) ?_
        exact fun p hp => hoff p (.tail _ hp)
      case hk => (((repeat (refine nm_cons ?nmh ?_; (case nmh => exact rfl))); exact fun _ hp => nomatch hp))
      case hr =>
        refine sameJ ?_
        k_extra "same"
      case q1 =>
        show SS = _
        rw [flF_succ, ← hC9]
        unfold iStep
        exact hc8
      case q2 => k_ne
      case q3 => k_ne
      case q4 => k_ne
      case q5 => k_ne
      case q6 => exact fun p hp => Nat.ne_of_lt (allLt_mem _ ltn1.2.2.2.2.2.2.2 p hp)
  case done =>
    intro c8
    refine match c8 with | ⟨⟨d9, o9, kv9⟩, S9, ti9, tj9, tz9⟩ => ?_
    intro u9 h9 tk9 hP18 F9 N9
    refine opqG fun G8 hG8 => ?_
    obtain ⟨hC9, hD9, hF9, lo9, hne1, hne2, hne3, hne4, hne5⟩ := hP18
    refine hG8 ?_
    clear hG8 G8
    clear lF' lN'
    dsimp only at hC9 hD9 hF9 lo9 hne1 hne2 hne3 hne4 hne5 F9 N9
    obtain ⟨c9, rfl⟩ : ∃ c, S9 = (c, (i0 : Int), (j0 : Int), (k0 : Int)) := ⟨S9.1, Prod.ext rfl (hC9 ▸ hS)⟩
    dsimp only at hF9 F9
    refine fr_let F9 ?_
    clear F9
    intro mf9 F9
    k_steps
    have hL' : i0 ≤ alo ∨ (alo < i0 ∧ j0 ≤ blo) ∨ (alo < i0 ∧ blo < j0 ∧ x.cps.getD (i0 - 1) 0 ≠ y.cps.getD (j0 - 1) 0) := by
      by_cases e1 : i0 ≤ alo
      · exact .inl e1
      · by_cases e2 : j0 ≤ blo
        · exact .inr (.inl ⟨by exact dn20 0xfb7001ff6040 (by k_ne) e1, e2⟩)
        · exact .inr (.inr ⟨by exact dn20 0xfb7001ff6040 (by k_ne) e1, by exact dn20 0xfb7001ff6040 (by k_ne) e2, (hL.resolve_left e1).resolve_left e2⟩)
    have hR' : ahi ≤ i0 + k0 ∨ (i0 + k0 < ahi ∧ bhi ≤ j0 + k0) ∨ (i0 + k0 < ahi ∧ j0 + k0 < bhi ∧ x.cps.getD (i0 + k0) 0 ≠ y.cps.getD (j0 + k0) 0) := by
      by_cases e1 : ahi ≤ i0 + k0
      · exact .inl e1
      · by_cases e2 : bhi ≤ j0 + k0
        · exact .inr (.inl ⟨by exact dn30 0xfb702f081ff6bc2040 (by k_ne) e1, e2⟩)
        · exact .inr (.inr ⟨by exact dn30 0xfb702f081ff6bc2040 (by k_ne) e1, by exact dn30 0xfb702f081ff6bc2040 (by k_ne) e2, (hRR.resolve_left e1).resolve_left e2⟩)
    k_dflt (refine' wl_false ?hE1 ?t1 ?_; (case hE1 => first | passes_own | with_unfolding_all passes_own); k_whole)
    case t1 =>
      rcases hL' with hL' | ⟨hi1, hL'⟩ | ⟨hi1, hj1, hL'⟩
      · k_steps
      · k_steps
      · k_steps
        rename (Txt.item _ _ == Txt.item _ _) = true => he
        exact (txt_ne (by exact dn20 0x3eef4c0d070374077040 (by k_ne) hi1) (by exact dn20 0x3eef4c0d070374077040 (by k_ne) hj1) (by exact dn50 0x3efbedc1c0d0b7084d80bc30b6040 (by k_ne) h2 g2 hi1) (by exact dn50 0x3efbedc1c0d0b7084d80bc30b6040 (by k_ne) h4 g4 hj1) hL' he).elim
    intro tkA
    k_steps
    k_dflt (refine' wl_false ?hE2 ?t2 ?_; (case hE2 => first | passes_own | with_unfolding_all passes_own); k_whole)
    case t2 =>
      rcases hR' with hR' | ⟨hi1, hR'⟩ | ⟨hi1, hj1, hR'⟩
      · k_steps
      · k_steps
      · k_steps
        rename (Txt.item _ _ == Txt.item _ _) = true => he
        exact (txt_ne (by (first | lia | omega)) (by (first | lia | omega)) (by exact dn40 0x3efb706f0c2dc0bc30b6040 (by k_ne) h2 hi1) (by exact dn40 0x3efb706f0c2dc0bc30b6040 (by k_ne) h4 hj1) hR' he).elim
    intro tkB
    k_steps
    k_dflt (refine' wl_false ?hE3 ?t3 ?_; (case hE3 => first | passes_own | with_unfolding_all passes_own); k_whole)
    case t3 =>
      rcases hL' with hL' | ⟨hi1, hL'⟩ | ⟨hi1, hj1, hL'⟩
      · k_steps
      · k_steps
      · k_steps
        all_goals trivial
    intro tkC
    k_steps
    k_dflt (refine' wl_false ?hE4 ?t4 ?_; (case hE4 => first | passes_own | with_unfolding_all passes_own); k_whole)
    case t4 =>
      rcases hR' with hR' | ⟨hi1, hR'⟩ | ⟨hi1, hj1, hR'⟩
      · k_steps
      · k_steps
      · k_steps
        all_goals trivial
    intro tkD
    k_steps
    rename Fr h₀ L _ m => kF
    rename News h₀ L _ _ => kN
    rename_i r9 dm9 l9 hl ha9 hb9 hc9 hd9 he9 hf9
    exact hret _ _ _ _ _ l9 (fun p hp => hl p (by ((repeat (first | (with_reducible assumption) | (with_reducible refine List.mem_append_right _ ?_) | (with_reducible refine List.mem_cons_of_mem _ ?_)))))) _ _ kF (fun p hp => kN p (by
      rcases List.mem_cons.mp hp with rfl | hp
      · exact .head _
      rcases List.mem_cons.mp hp with rfl | hp
      · exact .tail _ (.head _)
      ((repeat (first | (with_reducible assumption) | (with_reducible refine List.mem_append_right _ ?_) | (with_reducible refine List.mem_cons_of_mem _ ?_))))))
end
end Mine
end
section
open PySem PySem.W PyProof.Rows
namespace Mine
noncomputable def k0 (n : Nat) (f : Nat → Int) (i j : Nat) (C : Bool → Shared → Prop) (s : Shared) : Prop := i < n ∧ j < n ∧ C (decide (f i < f j)) s
theorem k0_to {α : Type} {n : Nat} {f : Nat → Int} {cmp : Nat → Nat → (Bool → Shared → Prop) → Shared → Prop} {Q Q' : α → Shared → Prop} {s : Shared} (hc : ∀ i j C, i < n → j < n → C (decide (f i < f j)) s → cmp i j C s) (hq : ∀ a, Q a s → Q' a s) :
    ∀ (t : KasT α), t.kasWp (k0 n f) Q s → t.kasWp cmp Q' s
  | .ret a, h => hq a h
  | .ask i j k, h => hc i j _ h.1 h.2.1 (k0_to hc hq (k _) h.2.2)
theorem k0_mono {α : Type} {n : Nat} {f : Nat → Int} {Q Q' : α → Shared → Prop} {s : Shared} {t : KasT α} (h : t.kasWp (k0 n f) Q s) (hq : ∀ a, Q a s → Q' a s) : t.kasWp (k0 n f) Q' s := k0_to (fun _ _ _ a b c => ⟨a, b, c⟩) hq t h
theorem k0_bind {α β : Type} {n : Nat} {f : Nat → Int} {t : KasT α} {g : α → KasT β} {Q : β → Shared → Prop} {s : Shared} (h : t.kasWp (k0 n f) (fun a s' => (g a).kasWp (k0 n f) Q s') s) : (t.bind g).kasWp (k0 n f) Q s := by
  rw [KasT.kasWp_bind]; exact h
theorem k0_ask {α : Type} {n : Nat} {f : Nat → Int} {i j : Nat} {k : Bool → KasT α} {Q : α → Shared → Prop} {s : Shared} (hi : i < n) (hj : j < n) (h1 : f i < f j → (k true).kasWp (k0 n f) Q s) (h2 : ¬ f i < f j → (k false).kasWp (k0 n f) Q s) : (KasT.ask i j k).kasWp (k0 n f) Q s := by
  refine ⟨hi, hj, ?_⟩
  by_cases h : f i < f j
  · rw [decide_eq_true h]; exact h1 h
  · rw [decide_eq_false h]; exact h2 h
noncomputable def PP (n : Nat) (p : Array Nat) : Prop := p.toList.Perm (List.range n)
section
variable {n : Nat} {f : Nat → Int} {p : Array Nat} {s : Shared}
theorem PP.size (h : PP n p) : p.size = n := by
  have := h.length_eq
  simpa using this
theorem PP.lt (h : PP n p) {i : Nat} (hi : i < n) : p.getD i 0 < n := by
  have hs := h.size
  have e : p.getD i 0 = p[i]'(by (first | lia | omega)) := by simp [Array.getD, hs, hi]
  have hm : p[i]'(by (first | lia | omega)) ∈ p.toList := by simp
  rw [e]
  exact List.mem_range.mp (h.mem_iff.mp hm)
theorem PP.inj (h : PP n p) {i j : Nat} (hi : i < n) (hj : j < n) (e : p.getD i 0 = p.getD j 0) : i = j := by
  have hs := h.size
  have hn : p.toList.Nodup := h.nodup_iff.mpr List.nodup_range
  have e1 : p.getD i 0 = p.toList[i]'(by simpa [hs] using hi) := by simp [Array.getD, hs, hi]
  have e2 : p.getD j 0 = p.toList[j]'(by simpa [hs] using hj) := by simp [Array.getD, hs, hj]
  rw [e1, e2] at e
  have hw := List.pairwise_iff_getElem.mp hn
  rcases Nat.lt_trichotomy i j with q | q | q
  · exact absurd e (hw i j (by simpa [hs] using hi) (by simpa [hs] using hj) q)
  · exact q
  · exact absurd e.symm (hw j i (by simpa [hs] using hj) (by simpa [hs] using hi) q)
theorem PP.bubble (h : PP n p) (k d : Nat) : PP n (PyProof.Rows.bubble p k d) := (bubble_perm p k d).toList.trans h
theorem PP.rev (h : PP n p) (i j : Nat) : PP n (kas_rev p i j) := (mirror_perm p i j _).toList.trans h
noncomputable def FI (n : Nat) (f : Nat → Int) : Prop := ∀ i j, i < n → j < n → f i = f j → i = j
noncomputable def kK (f : Nat → Int) (p : Array Nat) (i : Nat) : Int := f (p.getD i 0)
theorem PP.ne (h : PP n p) (hf : FI n f) {i j : Nat} (hi : i < n) (hj : j < n) (e : i ≠ j) : kK f p i ≠ kK f p j := fun q => e (h.inj hi hj (hf _ _ (h.lt hi) (h.lt hj) q))
theorem getD_bubble (hs : p.size = n) {k d : Nat} (hk : k < n) (hd : d ≤ k) (i : Nat) : (PyProof.Rows.bubble p k d).getD i 0 = if i = k - d then p.getD k 0 else if k - d < i ∧ i ≤ k then p.getD (i - 1) 0 else p.getD i 0 := by
  rw [Array.getD_eq_getD_getElem?, getElem?_bubble (by exact dn30 0x3efb7002dc10b8040 (by k_ne) hs hk) d hd]
  repeat' split
  all_goals rw [Array.getD_eq_getD_getElem?]
theorem getD_rev (hs : p.size = n) {j : Nat} (hj : j ≤ n) (i : Nat) : (kas_rev p 0 j).getD i 0 = if i < j then p.getD (j - 1 - i) 0 else p.getD i 0 := by
  unfold kas_rev
  rw [Array.getD_eq_getD_getElem?, getElem?_mirror_all (by exact dn30 0x3efb6002d810b8040 (by k_ne) hs hj)]
  by_cases h : i < j
  · rw [if_pos ⟨Nat.zero_le _, h⟩, if_pos h, Array.getD_eq_getD_getElem?, Nat.zero_add]
  · rw [if_neg (by exact dn20 0x3effcdc103600cff7040 (by k_ne) h), if_neg h, Array.getD_eq_getD_getElem?]
noncomputable def Up (f : Nat → Int) (p : Array Nat) (k : Nat) : Prop := ∀ i j, i < j → j < k → kK f p i < kK f p j
noncomputable def Down (f : Nat → Int) (p : Array Nat) (k : Nat) : Prop := ∀ i j, i < j → j < k → kK f p j < kK f p i
theorem up_succ (h : PP n p) (hf : FI n f) {k : Nat} (hk : k < n) (h1 : 1 ≤ k) (u : Up f p k) (q : ¬ kK f p k < kK f p (k - 1)) : Up f p (k + 1) := fun i j hij hj => by
  by_cases e : j < k
  · exact u i j hij e
  · have e : j = k := by exact dn20 0xfbee0103fdc1037bcd040 (by k_ne) hj e
    subst e
    have n1 := h.ne hf (show j - 1 < n by exact dn20 0x3edc1c0d037040 (by k_ne) hk) hk (by exact dn10 0xfbfe00c0d03600d (by k_ne) h1)
    by_cases e2 : i = j - 1
    · subst e2; exact dn02 0x3efba001ffb001ffa040 (by k_ne) q n1
    · have := u i (j - 1) (by exact dn20 0xfbedf034103fe30341037040 (by k_ne) hij e2) (by exact dn10 0x3edc0c0d03600d (by k_ne) h1); exact dn03 0xfbee800ba042ffa040 (by k_ne) q this
theorem down_succ {k : Nat} (h1 : 1 ≤ k) (u : Down f p k) (q : kK f p k < kK f p (k - 1)) : Down f p (k + 1) := fun i j hij hj => by
  by_cases e : j < k
  · exact u i j hij e
  · have e : j = k := by exact dn20 0xfbee0103fdc1037bcd040 (by k_ne) hj e
    subst e
    by_cases e2 : i = j - 1
    · subst e2; exact q
    · have := u i (j - 1) (by exact dn20 0xfbedf034103fe30341037040 (by k_ne) hij e2) (by exact dn10 0x3edc0c0d03600d (by k_ne) h1); exact dn03 0x3efba080e8207a040 (by k_ne) q this
theorem up_rev (h : PP n p) {k : Nat} (hk : k ≤ n) (u : Down f p k) : Up f (kas_rev p 0 k) k := fun i j hij hj => by
  unfold kK
  rw [getD_rev h.size hk, getD_rev h.size hk, if_pos (by exact dn30 0x3efb7080dc2077040 (by k_ne) hij hj), if_pos hj]
  exact u (k - 1 - j) (k - 1 - i) (by exact dn30 0x3efb7c00c0d0b0070342dc2077040 (by k_ne) hij hj) (by exact dn30 0x3edc1c02c0d077040 (by k_ne) hj)
theorem k_asc (h : PP n p) (hf : FI n f) {nrem : Nat} (hr : nrem ≤ n) {Q : Nat → Shared → Prop} : ∀ (fuel m : Nat), 1 ≤ m → m + fuel = nrem → Up f p m → (∀ r, 1 ≤ r → r ≤ nrem → Up f p r → (r < nrem → kK f p r < kK f p (r - 1)) → Q r s) → (kas_asc p fuel m).kasWp (k0 n f) Q s
  | 0, m, h1, h2, u, q => q m h1 (by exact dn20 0x3ed8103806f300 (by k_ne) h2) u (by exact dn22 0x3efba040dc103806f300 (by k_ne) h2)
  | fuel + 1, m, h1, h2, u, q => by
    refine k0_ask (h.lt (by exact dn40 0x3efb7042e00bef3430b6040 (by k_ne) hr h2)) (h.lt (by exact dn40 0x3efb7070342e00bef3430b6040 (by k_ne) hr h2)) (fun a => ?_) fun a => ?_
    · exact q m h1 (by exact dn30 0x3ed820380afbcd040 (by k_ne) h2) u fun _ => a
    · exact k_asc h hf hr fuel (m + 1) (by (first | lia | omega)) (by exact dn30 0x3ee02bc1bcd0380afbcd040 (by k_ne) h2) (up_succ h hf (by exact dn40 0x3efb7042e00bef3430b6040 (by k_ne) hr h2) h1 u a) q
theorem k_desc (h : PP n p) (hf : FI n f) {nrem : Nat} (hr : nrem ≤ n) {Q : Array Nat × Nat × Nat → Shared → Prop} : ∀ (fuel m : Nat), 1 ≤ m → m + fuel = nrem → Down f p m → (∀ r, 1 ≤ r → r ≤ nrem → Down f p r → Q (p, r, 0) s) → (kas_desc fuel p m 0).kasWp (k0 n f) Q s
  | 0, m, h1, h2, u, q => q m h1 (by exact dn20 0x3ed8103806f300 (by k_ne) h2) u
  | fuel + 1, m, h1, h2, u, q => by
    refine k0_ask (h.lt (by exact dn40 0x3efb7042e00bef3430b6040 (by k_ne) hr h2)) (h.lt (by exact dn40 0x3efb7070342e00bef3430b6040 (by k_ne) hr h2)) (fun a => ?_) fun a => ?_
    · exact k_desc h hf hr fuel (m + 1) (by (first | lia | omega)) (by exact dn30 0x3ee02bc1bcd0380afbcd040 (by k_ne) h2) (down_succ h1 u a) q
    · refine k0_ask (h.lt (by exact dn40 0x3efb7070342e00bef3430b6040 (by k_ne) hr h2)) (h.lt (by exact dn40 0x3efb7042e00bef3430b6040 (by k_ne) hr h2)) (fun b => ?_) fun b => ?_
      · exact q m h1 (by exact dn30 0x3ed820380afbcd040 (by k_ne) h2) u
      · exact absurd (show kK f p (m - 1) = kK f p m by unfold kK; exact dn02 0x3efbb001ffa001ffa040 (by k_ne) a b) (h.ne hf (by exact dn40 0x3efb7070342e00bef3430b6040 (by k_ne) hr h2) (by exact dn40 0x3efb7042e00bef3430b6040 (by k_ne) hr h2) (by exact dn10 0xfbfe00c0d03600d (by k_ne) h1))
theorem k_count (h : PP n p) (hf : FI n f) (h2 : 2 ≤ n) {Q : Nat × Array Nat → Shared → Prop} (q : ∀ r p', 1 ≤ r → r ≤ n → PP n p' → Up f p' r → Q (r, p') s) : (kas_count n p).kasWp (k0 n f) Q s := by
  unfold kas_count
  refine k0_bind (k_asc h hf (Nat.le_refl n) (n - 1) 1 (Nat.le_refl _) (by exact dn10 0x3ee00bf034037600e (by k_ne) h2) (fun i j _ _ => by exact @dn22 i j (kK f p i) (kK f p j) 0x3efba040dcd077040 (by k_ne) ‹_› ‹_›) fun r h1 hr u d => ?_)
  by_cases e : r = n
  · subst e
    rw [if_pos (by simp)]
    exact q r p h1 (Nat.le_refl _) h u
  · rw [if_neg (by simpa using e)]
    by_cases e2 : r > 1
    · rw [if_pos e2]
      refine k0_ask (h.lt (by exact dn10 0x3edc033600e (by k_ne) h2)) (h.lt (by exact dn20 0xfbedc1c0d03fe01036040 (by k_ne) hr e)) (fun a => ?_) fun a => ?_
      · exact q r p h1 hr h u
      · exact absurd (u 0 (r - 1) (by exact dn10 0x3edf034033700d (by k_ne) e2) (by exact dn10 0x3edc0c0d03600d (by k_ne) h1)) a
    · rw [if_neg e2]
      have e3 : r = 1 := by exact dn10 0xfbee0d03fdc037600d (by k_ne) h1 e2
      subst e3
      have dd := d (by exact dn10 0x3edc037600e (by k_ne) h2)
      unfold kas_descPart
      refine k0_bind (k_desc h hf (Nat.le_refl n) (n - (1 + 1)) (1 + 1) (by (first | lia | omega)) (by exact dn10 0x3ee00bf0bcd340bcd37600e (by k_ne) h2) (down_succ (Nat.le_refl 1) (fun i j _ _ => by exact @dn22 i j (kK f p j) (kK f p i) 0x3efba040dcd077040 (by k_ne) ‹_› ‹_›) dd) fun m hm1 hm2 u2 => ?_)
      rw [if_neg (by simp)]
      unfold kas_tail3
      have h' := h.rev 0 m
      have u3 := up_rev h hm2 u2
      exact k0_bind (k_asc h' hf (Nat.le_refl n) (n - m) m hm1 (by exact dn20 0x3ee01bf0001036040 (by k_ne) hm2) u3 fun r r1 r2 u4 _ => q r _ r1 r2 h' u4)
theorem k_place (h : PP n p) (hf : FI n f) {k : Nat} (hk : k < n) {Q : Nat → Shared → Prop} (q : ∀ l, l ≤ k → (∀ i, i < l → kK f p i < kK f p k) → (∀ i, l ≤ i → i < k → kK f p k < kK f p i) → Q l s) (u : Up f p k) :
    ∀ (fuel l r : Nat), r - l ≤ fuel → l ≤ r → r ≤ k → (∀ i, i < l → kK f p i < kK f p k) → (∀ i, r ≤ i → i < k → kK f p k < kK f p i) → (kas_place p k fuel l r).kasWp (k0 n f) Q s
  | 0, l, r, h1, h2, h3, a, b => by
    have : r = l := by exact dn20 0x3efb8040d80076330040 (by k_ne) h1 h2
    subst this
    exact q r h3 a b
  | fuel + 1, l, r, h1, h2, h3, a, b => by
    unfold kas_place
    by_cases e : l ≥ r
    · rw [if_pos e]
      have : r = l := by exact dn20 0x3efb8001d80076040 (by k_ne) h2 e
      subst this
      exact q r h3 a b
    · rw [if_neg e]
      have hm1 : l ≤ (l + r) / 2 := by exact dn20 0xfb6c8ebc0041ff6040 (by k_ne) e
      have hm2 : (l + r) / 2 < r := by exact dn20 0xfb70323af001ff6040 (by k_ne) e
      refine k0_ask (h.lt hk) (h.lt (by exact dn40 0x3efbedc1c8ebc20f70b23af083d800b7040 (by k_ne) hk h3 hm2)) (fun c => ?_) fun c => ?_
      · rw [if_pos rfl]
        refine k_place h hf hk q u fuel l _ (by (first | lia | omega)) (by exact dn20 0x3edb23af040036c8ebc1000 (by k_ne) hm1) (by exact dn30 0x3efb60723af002dc0c8ebc00b6040 (by k_ne) h3 hm2) a fun i i1 i2 => ?_
        have c' : kK f p k < kK f p ((l + r) / 2) := c
        by_cases e2 : i = (l + r) / 2
        · subst e2; exact c'
        · have := u _ i (show (l + r) / 2 < i by exact dn30 0xfbedc2c8ebc103fe323af0400b60b23af040 (by k_ne) i1 e2) i2; exact dn03 0x3efba080e8207a040 (by k_ne) c' this
      · rw [if_neg (by simp)]
        have c' : ¬ kK f p k < kK f p ((l + r) / 2) := c
        have n1 := h.ne hf hk (show (l + r) / 2 < n by exact dn40 0x3efbedc1c8ebc20f70b23af083d800b7040 (by k_ne) hk h3 hm2) (by exact dn30 0x3efbfe323af00207fd82036040 (by k_ne) h3 e)
        refine k_place h hf hk q u fuel _ r (by exact dn30 0x3ed82c2f3723af001036bcd0b0040 (by k_ne) h1) (by exact dn20 0x3ed81bcdc8ebc10370723af040 (by k_ne) hm2) h3 (fun i i1 => ?_) b
        by_cases e2 : i = (l + r) / 2
        · subst e2; exact dn02 0x3efba001ffb040ffa040 (by k_ne) c' n1
        · have := u i ((l + r) / 2) (by exact dn30 0xfbedf23af08103fe323af081037bcdc8ebc2040 (by k_ne) i1 e2) (by exact dn30 0x3efb70723af002dc0c8ebc00b6040 (by k_ne) h3 hm2); exact dn03 0xfbee800ba042ffa040 (by k_ne) c' this
theorem up_bubble (h : PP n p) {k l : Nat} (hk : k < n) (hl : l ≤ k) (u : Up f p k) (a : ∀ i, i < l → kK f p i < kK f p k) (b : ∀ i, l ≤ i → i < k → kK f p k < kK f p i) : Up f (PyProof.Rows.bubble p k (k - l)) (k + 1) := fun i j hij hj => by
  unfold kK
  rw [getD_bubble h.size hk (by exact dn20 0x36030040 (by k_ne)), getD_bubble h.size hk (by exact dn20 0x36030040 (by k_ne)), show k - (k - l) = l by exact dn20 0x3ee00c30001076040 (by k_ne) hl]
  by_cases i1 : i = l
  · rw [if_pos i1, if_neg (by exact dn30 0xfbeff8081e02037040 (by k_ne) hij i1), if_pos (by exact dn40 0x3efbef36081dc10f80c0def342077040 (by k_ne) hij hj i1)]
    exact b (j - 1) (by exact dn30 0x3efb6c0d042e02037040 (by k_ne) hij i1) (by exact dn30 0x3efb70b0341def342077040 (by k_ne) hij hj)
  · rw [if_neg i1]
    by_cases i2 : l < i ∧ i ≤ k
    · rw [if_pos i2, if_neg (by exact dn30 0xfbeff8081dc00b7040 (by k_ne) hij i2.1), if_pos (by exact dn40 0x3efbef36081dc10f7003def342077040 (by k_ne) hij hj i2.1)]
      exact u (i - 1) (j - 1) (by exact dn30 0x3efb7c0d070340dc00b7040 (by k_ne) hij i2.1) (by exact dn40 0x3efbedc1c0d036043dc30b7bcd040 (by k_ne) hj i2.1 i2.2)
    · rw [if_neg i2]
      by_cases j1 : j = l
      · rw [if_pos j1]; exact a i (by exact dn30 0x3efb7080e02077040 (by k_ne) hij j1)
      · rw [if_neg j1]
        by_cases j2 : l < j ∧ j ≤ k
        · rw [if_pos j2]
          by_cases e : i = j - 1
          · exact dn42 0x3efbefbee81038c0d0c0d820f70c1ffcd82037001ff8040 (by k_ne) i1 i2 j2.1 j2.2 e
          · exact u i (j - 1) (by exact dn20 0xfbedf034103fe30341037040 (by k_ne) hij e) (by exact dn30 0x3efb70b0341def342077040 (by k_ne) hij hj)
        · rw [if_neg j2]; exact u i j hij (by exact dn30 0x3efbefb7042ffcd810b7080ff8002def3410b6040 (by k_ne) hl hj j1 j2)
theorem k_bin (hf : FI n f) {Q : Array Nat → Shared → Prop} (q : ∀ p', PP n p' → Up f p' n → Q p' s) : ∀ (fuel : Nat) (p : Array Nat) (k : Nat), PP n p → 1 ≤ k → k + fuel = n → Up f p k → (kas_bin fuel p k).kasWp (k0 n f) Q s
  | 0, p, k, h, h1, h2, u => q p h (by rw [show n = k by exact dn20 0x3ee0007806f300 (by k_ne) h2]; exact u)
  | fuel + 1, p, k, h, h1, h2, u => by
    have hk : k < n := by exact dn30 0x3edc20380afbcd040 (by k_ne) h2
    unfold kas_bin
    refine k0_bind (k_place h hf hk (fun l hl a b => ?_) u k 0 k (by exact dn10 0x36030300 (by k_ne)) (by (first | lia | omega)) (Nat.le_refl _) (fun i hi => absurd hi (by exact dn10 0xff7300 (by k_ne))) fun i i1 i2 => absurd i2 (by exact dn20 0xfbfdc0076040 (by k_ne) i1))
    exact k_bin hf q fuel _ (k + 1) (h.bubble k (k - l)) (by (first | lia | omega)) (by exact dn30 0x3ee02bc1bcd0380afbcd040 (by k_ne) h2) (up_bubble h hk hl u a b)
theorem k_sort (hf : FI n f) (h2 : 2 ≤ n) {Q : Array Nat → Shared → Prop} (q : ∀ p', PP n p' → Up f p' n → Q p' s) : (kas_sort n).kasWp (k0 n f) Q s := by
  unfold kas_sort
  have hp : PP n (List.toArray (List.range n)) := by unfold PP; exact List.Perm.refl _
  refine k0_bind (k_count hp hf h2 fun r p' r1 r2 h' u => ?_)
  by_cases e : r < n
  · rw [if_pos e]
    rw [show max r 1 = r by (first | lia | omega)]
    exact k_bin hf q _ _ _ h' r1 (by exact dn20 0x3ee01bf0001037040 (by k_ne) e) u
  · rw [if_neg e]
    have : r = n := by exact dn20 0xfbee0103fdc1036040 (by k_ne) r2 e
    subst this
    exact q p' h' u
end
theorem sorted_as {α : Type} {d : α} {key : α → Int} {bs cs : List α} {p : Array Nat} (hp : PP bs.length p) (hu : Up (fun i => key (bs.getD i d)) p bs.length) (hc : cs.Perm bs) (hs : cs.Pairwise fun a b => key a < key b) : p.toList.map (fun i => bs.getD i d) = cs := by
  refine List.Perm.eq_of_pairwise (le := fun a b => key a < key b) (fun a b _ _ h1 h2 => by (first | lia | omega)) ?_ hs ?_
  · rw [List.pairwise_iff_getElem]
    intro i j hi hj hij
    have hz := hp.size
    rw [List.length_map, Array.length_toList] at hi hj
    have := hu i j hij (by exact dn30 0x3efb7080e02077040 (by k_ne) hj hz)
    unfold kK at this
    simpa [Array.getD, hi, hj] using this
  · refine (hp.map _).trans (.trans ?_ hc.symm)
    have e : (List.range bs.length).map (fun i => bs.getD i d) = bs := by
      refine List.ext_getElem (by simp) fun i h1 h2 => ?_
      simp [List.getD, h2]
    rw [e]
end Mine
end
section
open PySem PySem.W PyProof.Rows PySem.Calls
set_option maxRecDepth 100000
set_option maxHeartbeats 1000000
namespace Mine
noncomputable abbrev Trip := Int × Int × Int
noncomputable def MtV (news : List (Addr × Obj)) (v : Value) (b : Trip) : Prop := ∃ (r dx : Addr) (t1 t2 t3 : Tok), v = .ref r ∧ (r, matchV dx [.int b.1 t1, .int b.2.1 t2, .int b.2.2 t3]) ∈ news
inductive MtAll (news : List (Addr × Obj)) : List Value → List Trip → Prop
  | nil : MtAll news [] []
  | cons {v b vs bs} : MtV news v b → MtAll news vs bs → MtAll news (v :: vs) (b :: bs)
theorem MtV.map {news news' : List (Addr × Obj)} {v : Value} {b : Trip} (h : MtV news v b) (f : ∀ r dx l, (r, matchV dx l) ∈ news → (r, matchV dx l) ∈ news') : MtV news' v b :=
  h.imp fun _ y => y.imp fun _ y => y.imp fun _ y => y.imp fun _ y => y.imp fun _ y => ⟨y.1, f _ _ _ y.2⟩
theorem MtV.mono {news news' : List (Addr × Obj)} {v : Value} {b : Trip} (h : MtV news v b) (hs : ∀ p ∈ news, p ∈ news') : MtV news' v b := h.map fun _ _ _ => hs _
theorem MtAll.map {news news' : List (Addr × Obj)} (f : ∀ v b, MtV news v b → MtV news' v b) {vs : List Value} {bs : List Trip} (h : MtAll news vs bs) : MtAll news' vs bs := by
  induction h with
  | nil => exact .nil
  | cons h _ ih => exact .cons (f _ _ h) ih
theorem MtAll.mono {news news' : List (Addr × Obj)} (hs : ∀ p ∈ news, p ∈ news') : ∀ {vs : List Value} {bs : List Trip}, MtAll news vs bs → MtAll news' vs bs := MtAll.map fun _ _ h => h.mono hs
theorem MtAll.length {news : List (Addr × Obj)} : ∀ {vs : List Value} {bs : List Trip}, MtAll news vs bs → vs.length = bs.length := fun h => by
  induction h with
  | nil => rfl
  | cons _ _ ih => exact congrArg (· + 1) ih
theorem MtAll.snoc {news : List (Addr × Obj)} {v : Value} {b : Trip} (hv : MtV news v b) : ∀ {vs : List Value} {bs : List Trip}, MtAll news vs bs → MtAll news (vs ++ [v]) (bs ++ [b]) := fun h => by
  induction h with
  | nil => exact .cons hv .nil
  | cons h _ ih => exact .cons h ih
theorem MtAll.at {news : List (Addr × Obj)} {dv : Value} {db : Trip} : ∀ {vs : List Value} {bs : List Trip}, MtAll news vs bs → ∀ i, i < bs.length → MtV news (vs.getD i dv) (bs.getD i db) := fun h => by
  induction h with
  | nil => exact fun i h => absurd h (Nat.not_lt_zero _)
  | cons h _ ih => exact fun i hi => Nat.casesOn (motive := fun i => i < _ → MtV news (List.getD _ i dv) (List.getD _ i db)) i (fun _ => h) (fun i hi => ih i (Nat.lt_of_succ_lt_succ hi)) hi
theorem MtAll.map_at {news : List (Addr × Obj)} {vs : List Value} {bs : List Trip} (h : MtAll news vs bs) (dv : Value) (db : Trip) : ∀ (l : List Nat), (∀ i ∈ l, i < bs.length) → MtAll news (l.map fun i => vs.getD i dv) (l.map fun i => bs.getD i db)
  | [], _ => .nil
  | i :: l, hl => .cons (h.at i (hl i (.head _))) (h.map_at dv db l fun j hj => hl j (.tail _ hj))
theorem MtV.isMt {h₀ h : Heap} {L : Addr} {news : List (Addr × Obj)} {v : Value} {b : Trip} (x : MtV news v b) (N : News h₀ L h news) : ∃ (r : Addr) (t1 t2 t3 : Tok), v = .ref r ∧ IsMt h r [.int b.1 t1, .int b.2.1 t2, .int b.2.2 t3] :=
  x.elim fun r y => y.elim fun _ y => y.elim fun t1 y => y.elim fun t2 y => y.elim fun t3 y => ⟨r, t1, t2, t3, y.1, .of N y.2⟩
theorem MtV.swap {h₀ h : Heap} {L D : Addr} {news : List (Addr × Obj)} {o : Obj} {g : Obj → List (Addr × Obj)} {v : Value} {b : Trip} (x : MtV news v b) (N : News h₀ L h news) (U : UpdF D o news g) (ho : o.cls ≠ .ref 216) (o' : Obj) : MtV (g o') v b := by
  refine x.map fun r dx l hm => ?_
  obtain ⟨pre, post, e0, hg, x1, x2⟩ := U.split
  rw [hg]
  rw [e0] at hm
  rcases List.mem_append.mp hm with hm | hm
  · exact List.mem_append_left _ hm
  · rcases List.mem_cons.mp hm with q | hm
    · obtain ⟨q1, q2⟩ := Prod.mk.inj q
      exact absurd (congrArg Obj.cls q2).symm ho
    · exact List.mem_append_right _ (.tail _ hm)
theorem MtAll.swap {h₀ h : Heap} {L D : Addr} {news : List (Addr × Obj)} {o : Obj} {g : Obj → List (Addr × Obj)} (N : News h₀ L h news) (U : UpdF D o news g) (ho : o.cls ≠ .ref 216) (o' : Obj) : ∀ {vs : List Value} {bs : List Trip}, MtAll news vs bs → MtAll (g o') vs bs := MtAll.map fun _ _ h => h.swap N U ho o'
section
variable {prog : Program} {w : World} {A : Around} {E : Value → Shared → Prop} {s : Shared} {h₀ : Heap} {L : Addr} {m : Str → Option Value} {news : List (Addr × Obj)}
theorem mt_ltV {v u : Value} {b c : Trip} {Q : Bool → Shared → Prop} (hu : A.units < cLine) (X : (HD.K w.params).In s.heap) (N : News h₀ L s.heap news) (hv : MtV news v b) (hw : MtV news u c) (hne : b.1 ≠ c.1)
    (h : Q (decide (b.1 < c.1)) s) : wpAny (model prog w) A (keyLt' oneType' v u) Q E s := by
  obtain ⟨r, t1, t2, t3, rfl, hr⟩ := hv.isMt N
  obtain ⟨r', t1', t2', t3', rfl, hr'⟩ := hw.isMt N
  exact mt_lt hu X hr hr' hne h
theorem mt_ltS {v : Value} {b : Trip} {Q : Bool → Shared → Prop} (hu : A.units < cLine) (X : (HD.K w.params).In s.heap) (N : News h₀ L s.heap news) (hv : MtV news v b) (h : Q false s) : wpAny (model prog w) A (keyLt' oneType' v v) Q E s := by
  obtain ⟨r, t1, t2, t3, rfl, hr⟩ := hv.isMt N
  rw [keyLt'_oneType, oneLt'_eq]
  simp only [if_true]
  refine wpAny_bind (wpAny_cRoomFor hu ?_)
  refine wpAny_bind (mt_ifB X hr (mt_fLt _) (mt_bLt _) (mt_call X hr mt_pLt mt_kLt mt_sLt mt_eLt (mt_aLt _ _) ?_))
  have hi : Looks (model prog w) s.heap (isInstance (.ref r) (.type "tuple")) true := hr.type.andThen (mt_sub X)
  show wpAny _ _ (isInstance (.ref r) (.type "tuple") >>= _) _ _ s
  refine wpAny_bind (hi.here ?_)
  simp only [Bool.not_true, Bool.false_eq_true, if_false]
  refine wpAny_bind (mt_items hr (wpAny_bind (mt_items hr ?_)))
  refine wpAny_bind ?_
  rw [show ∀ a b c : Value, [a, b, c].toArray.toList.zip [a, b, c].toArray.toList = [(a, a), (b, b), (c, c)] from fun _ _ _ => rfl]
  rw [List.forIn_cons]
  refine wpAny_bind (wpAny_bind (wpAny_eqBool_int ?_))
  simp only [BEq.rfl, Bool.not_true, Bool.false_eq_true, if_false]
  refine wpAny_pure ?_
  dsimp only
  rw [List.forIn_cons]
  refine wpAny_bind (wpAny_bind (wpAny_eqBool_int ?_))
  simp only [BEq.rfl, Bool.not_true, Bool.false_eq_true, if_false]
  refine wpAny_pure ?_
  dsimp only
  rw [List.forIn_cons]
  refine wpAny_bind (wpAny_bind (wpAny_eqBool_int ?_))
  simp only [BEq.rfl, Bool.not_true, Bool.false_eq_true, if_false]
  refine wpAny_pure ?_
  dsimp only
  rw [List.forIn_nil]
  refine wpAny_pure ?_
  exact wpAny_pure ⟨_, rfl, wpAny_truthy_bool h⟩
theorem small_sort {D : Addr} {its : Array Value} {n : Nat} {g : Obj → List (Addr × Obj)} {Q : Value → Shared → Prop} (F : Fr h₀ L s.heap m) (N : News h₀ L s.heap news) (U : UpdF D (listOf its n) news g) (h2 : its.toList.length < 2)
    (h : ∀ c h', Fr h₀ L h' m → News h₀ L h' (g (listOf its c)) → Q .none { s with heap := h' }) : wpAny (model prog w) A (call (.builtin "list.sort") [.ref D]) Q E s := by
  obtain ⟨pre, post, e0, hg, x1, x2⟩ := U.split
  rw [e0] at N
  have nz := N (D, listOf its n) (List.mem_append_right _ (.head _))
  have ho : s.heap.get? D = some (seqObj "list" its n) := nz.1
  refine wpAny_call_entry slot_list_sort ⟨_, nz.1, rfl⟩ entry_list_sort ?_ (args_list_sort _)
  have ha : D < s.heap.objs.size := Heap.lt_size ho
  have s1 := Heap.SameBut.update s.heap D (Obj.mapSeq fun _ => (#[] : Array Value))
  obtain ⟨e1, ho1⟩ : ∃ e1, (s.heap.update D (Obj.mapSeq fun _ => (#[] : Array Value))).get? D = some (seqObj "list" #[] e1) := ⟨_, get?_update_seq ho fun _ => #[]⟩
  have hsz : its.toList.length = its.size := by simp
  rw [list_sort_plain]
  refine wpAny_bind (listItems_at ho rfl ?_)
  refine wpAny_bind (listUpdate_at ho rfl ?_ (by rw [sizeLine_eq]; exact dn20 0x3efb6000000000001000000b41e01037380 (by k_ne) h2 hsz) (Nat.zero_le _))
  refine wpAny_bind (seqEpoch_at ho1 rfl ?_)
  refine wpAny_bind (wpAny_newTuple ?_ (by rw [sizeLine_eq]; exact dn10 0x3ed8000000000004000002d037380 (by k_ne) h2))
  refine wpAny_bind (wpAny_newList ?_ (Nat.zero_le _))
  refine wpAny_holding ?_
  have F3 : Fr h₀ L (((s.heap.update D (Obj.mapSeq fun _ => (#[] : Array Value))).push (seqObj "tuple" its.toList.toArray 0)).push (seqObj "list" #[] 0)) m := ((kas_fr F s1 nz.2.1 nz.2.2).push _).push _
  have N3 : News h₀ L (((s.heap.update D (Obj.mapSeq fun _ => (#[] : Array Value))).push (seqObj "tuple" its.toList.toArray 0)).push (seqObj "list" #[] 0)) (pre ++ (D, seqObj "list" #[] e1) :: post) :=
    (news_set N x1 x2 s1 ho1).grown fun b x e => Heap.get?_push_of_some _ (Heap.get?_push_of_some _ e)
  show wpAny (model prog w) A.in1 _ _ E { s with heap := ((s.heap.update D (Obj.mapSeq fun _ => (#[] : Array Value))).push (seqObj "tuple" its.toList.toArray 0)).push (seqObj "list" #[] 0) }
  have hn2 : its.size < 2 := by exact dn20 0x3efb7381e01037380 (by k_ne) h2 hsz
  dsimp only
  rw [if_pos hn2, if_pos hn2]
  refine wpAny_bind (wpAny_pure ?_)
  rw [StateT.run_pure]
  refine wpAny_bind (wpAny_pure ?_)
  dsimp only
  have na := (N3 (D, seqObj "list" #[] e1) (List.mem_append_right _ (.head _)))
  have hout : (arrOf (SortSt.mk' general' (its.zip its) #[] 7 none)).map (·.2) = its := by
    show (its.zip its).map (·.2) = its
    apply Array.ext (by simp)
    intro i h1 h2
    simp
  rw [hout]
  have s2 := Heap.SameBut.update (((s.heap.update D (Obj.mapSeq fun _ => (#[] : Array Value))).push (seqObj "tuple" its.toList.toArray 0)).push (seqObj "list" #[] 0)) D (Obj.mapSeq fun _ => its)
  obtain ⟨c2, hc2⟩ : ∃ c2, ((((s.heap.update D (Obj.mapSeq fun _ => (#[] : Array Value))).push (seqObj "tuple" its.toList.toArray 0)).push (seqObj "list" #[] 0)).update D (Obj.mapSeq fun _ => its)).get? D = some (seqObj "list" its c2) := ⟨_, get?_update_seq na.1 fun _ => its⟩
  refine wpAny_bind (seqEpoch_at na.1 rfl ?_)
  refine wpAny_bind (listUpdate_at na.1 rfl ?_ (Nat.zero_le _) (by rw [sizeLine_eq]; exact dn20 0x3efb6bcd000000000001000000b41e01037380 (by k_ne) h2 hsz))
  simp only [bne_self_eq_false, Bool.false_eq_true, if_false]
  refine wpAny_pure ⟨_, rfl, h c2 _ (kas_fr F3 s2 nz.2.1 nz.2.2) ?_⟩
  rw [hg]
  exact news_set N3 x1 x2 s2 hc2
theorem perm_small {α : Type} {cs bs : List α} (h : bs.length < 2) (hc : cs.Perm bs) : cs = bs := by
  cases bs with
  | nil => exact hc.eq_nil
  | cons b l => cases l with
    | nil => exact List.perm_singleton.mp hc
    | cons c l => exact absurd h (Nat.not_lt.mpr (Nat.le_add_left 2 _))
theorem mt_lsort {D : Addr} {its : Array Value} {n : Nat} {g : Obj → List (Addr × Obj)} {bs cs : List Trip} {R : List (Addr × Obj)} {Q : Value → Shared → Prop} (hu : A.in1.units < cLine) (F : Fr h₀ L s.heap m) (X₀ : (HD.K w.params).In h₀) (N : News h₀ L s.heap news) (U : UpdF D (listOf its n) news g)
    (hbR : MtAll R its.toList bs) (hR : ∀ p ∈ R, p ∈ news) (h64 : bs.length < 64) (hc : cs.Perm bs) (hs : cs.Pairwise fun a b => a.1 < b.1)
    (h : ∀ (vs : List Value) (c : Nat) (h' : Heap), MtAll R vs cs → Fr h₀ L h' m → News h₀ L h' (g (listOf vs.toArray c)) → Q .none { s with heap := h' }) : wpAny (model prog w) A (call (.builtin "list.sort") [.ref D]) Q E s := by
  have hne : (listOf its n).cls ≠ .ref 216 := by show Value.type "list" ≠ .ref 216; intro e; cases e
  have hb := hbR.mono hR
  by_cases h2 : its.toList.length < 2
  · refine small_sort F N U h2 fun c h' F' N' => h its.toList c h' ?_ F' (by rw [Array.toArray_toList]; exact N')
    rw [perm_small (hb.length ▸ h2) hc]
    exact hbR
  · have hlen := hb.length
    refine kas_lsort (T := .ref 216) F N U rfl (by exact dn10 0xfb600eff7380 (by k_ne) h2) (by exact dn20 0x3efb7040b01e00077040b00 (by k_ne) h64 hlen) (fun e1 h' F' N' v hv => ?_) (by decide) fun e1 h' F' N' => ?_
    · obtain ⟨i, hi, rfl⟩ := List.getElem_of_mem hv
      have := (hb.swap N U hne (seqObj "list" #[] e1)).at (dv := .none) (db := (0, 0, 0)) i (by exact dn30 0x3efb7042dc00b8040 (by k_ne) hlen hi)
      rw [show its.toList.getD i .none = its.toList[i] by rw [List.getD, List.getElem?_eq_getElem hi]; rfl] at this
      obtain ⟨r, _, _, _, e, hr⟩ := this.isMt N'
      rw [e]
      exact hr.type
    · have hb' := hb.swap N U hne (seqObj "list" #[] e1)
      have X' := X₀.keeps F'.keep
      have hfi : FI its.toList.length (fun i => (bs.getD i (0, 0, 0)).1) := by
        have hp : bs.Pairwise fun a b => a.1 ≠ b.1 := hc.pairwise (hs.imp fun h => Int.ne_of_lt h) (fun h e => h e.symm)
        have hw := List.pairwise_iff_getElem.mp hp
        intro i j hi hj e
        rw [hlen] at hi hj
        simp only [List.getD, List.getElem?_eq_getElem hi, List.getElem?_eq_getElem hj, Option.getD_some] at e
        rcases Nat.lt_trichotomy i j with q | q | q
        · exact absurd e (hw i j hi hj q)
        · exact q
        · exact absurd e.symm (hw j i hj hi q)
      refine k0_to (n := its.toList.length) (f := fun i => (bs.getD i (0, 0, 0)).1) (fun i j C hi hj hC => ?_) (fun p hq => hq) _ (k_sort hfi (by exact dn10 0xfb600eff7380 (by k_ne) h2) fun p hp hup => ?_)
      · unfold kas_ask
        have hi' := hb'.at (dv := .none) (db := (0, 0, 0)) i (by exact dn30 0x3efb7042dc00b8040 (by k_ne) hlen hi)
        have hj' := hb'.at (dv := .none) (db := (0, 0, 0)) j (by exact dn30 0x3efb7042dc00b8040 (by k_ne) hlen hj)
        by_cases e : i = j
        · subst e
          refine mt_ltS hu X' N' hi' ?_
          rw [decide_eq_false (Int.lt_irrefl _)] at hC
          exact hC
        · exact mt_ltV hu X' N' hi' hj' (fun q => e (hfi i j hi hj q)) hC
      · refine .intro F' N' (news := g (seqObj "list" #[] e1)) (g := g) ?_ fun h3 c F3 N3 => h _ c h3 ?_ F3 N3
        · obtain ⟨pre, post, e0, hg, x1, x2⟩ := U.split
          have : ∀ (l : List (Addr × Obj)), (∀ p ∈ l, p.1 ≠ D) → UpdF D (seqObj "list" #[] e1) (l ++ (D, seqObj "list" #[] e1) :: post) (fun o' => l ++ (D, o') :: post) := by
            intro l
            induction l with
            | nil => exact fun _ => .head x2
            | cons a l ih => exact fun hl => .tail (hl a (.head _)) (ih fun p hp => hl p (.tail _ hp))
          have z := this pre x1
          rw [hg]
          rw [show g = fun o' => pre ++ (D, o') :: post from funext hg]
          exact z
        · have e : p.toList.map (fun i => bs.getD i (0, 0, 0)) = cs := sorted_as (key := fun b => b.1) (by rw [← hlen]; exact hp) (by rw [← hlen]; exact hup) hc hs
          have z := hbR.map_at .none (0, 0, 0) p.toList (fun i hi => by rw [← hlen]; exact List.mem_range.mp (hp.mem_iff.mp hi))
          rw [e] at z
          exact z
end
end Mine
end
section
open PySem PySem.W PyProof.Rows PySem.Calls
set_option maxRecDepth 100000
set_option maxHeartbeats 1000000
namespace Mine
noncomputable abbrev mapO (tup q : Addr) : Obj := { cls := .type "map", data := .fields #[.ref tup, .ref q] }
noncomputable abbrev tupO (vs : List Value) (n : Nat) : Obj := { cls := .type "tuple", data := .seq vs.toArray n }
theorem slot_map_next : Slot "map" "__next__" "map.__next__" :=
  .of (owner := "map") (n := "__next__") (by rw [typeLookup_type, builtinLookup_eq_fast]; kernel_rfl) (by decide +kernel) (by decide +kernel) (by decide +kernel) (.inl (by decide +kernel)) (by rw [isSubtype_type]; kernel_rfl)
theorem entry_map_next : entryFor table "map.__next__" = some Builtin.«map.__next__» := entryFor_of_tree (by kernel_rfl)
theorem args_map_next (a : Value) : argsOk "map.__next__" ⟨[a], []⟩ := by unfold argsOk; kernel_rfl
theorem look_map_iter : typeLookup (.type "map") "__iter__" = pure (some (.builtin "map.__iter__")) := by rw [typeLookup_type, builtinLookup_eq_fast]; kernel_rfl
section
variable {prog : Program} {w : World} {A : Around} {E : Value → Shared → Prop} {s : Shared}
theorem nextOf_item {it l : Addr} {i : Nat} {items : Array Value} {x : Value} {Q : Value → Shared → Prop} (hit : s.heap.IsListIter it l i) (hl : s.heap.IsList l items) (hx : items[i]? = some x)
    (hQ : ∀ h', h'.IsListIter it l (i + 1) → Heap.SameBut it s.heap h' → Q x { s with heap := h' }) : wpAny (model prog w) A (Builtin.SmallTypes.nextOf (.ref it)) Q E s := by
  obtain ⟨o, ho, hc, hd⟩ := id hit
  obtain ⟨ol, hol, _, nl, hdl⟩ := hl
  unfold Builtin.SmallTypes.nextOf
  refine wpAny_bind (wpAny_callSpecial?_slot (name := Str.ofString "__next__") hit.typeIs slot_listiter_next
    (wpAny_call_entry slot_listiter_next hit.typeIs entry_listiter_next ?_ (args_listiter_next _)))
  show wpAny _ _ (field (.ref it) 0 >>= _) _ _ s
  refine wpAny_bind (wpAny_field ho hd (x := .ref l) rfl ?_)
  show wpAny _ _ (if (Value.ref l == Value.none) = true then _ else _) _ _ s
  rw [if_neg (show ¬ ((Value.ref l == Value.none) = true) from Bool.false_ne_true)]
  show wpAny _ _ (field (.ref it) 1 >>= _) _ _ s
  refine wpAny_bind (wpAny_field ho hd (x := .int i 0) rfl ?_)
  show wpAny _ _ (seqItems? (.ref l) >>= _) _ _ s
  refine wpAny_bind (wpAny_seqItems hol hdl ?_)
  simp only [Int.toNat_natCast, hx]
  refine wpAny_bind (wpAny_setField ho hd (by simp) (wpAny_pure ⟨x, rfl, wpAny_pure (hQ _ ?_ (Heap.SameBut.update ..))⟩))
  exact ⟨_, Heap.get?_update_self _ ho (Obj.isFreed_of_fields (Obj.data_mapFields hd _)), (Obj.cls_mapFields ..).trans hc, by
    rw [Obj.data_mapFields hd]; simp [rawInt]⟩
theorem nextOf_end {it l : Addr} {i : Nat} {items : Array Value} {Q : Value → Shared → Prop} (hh : A.handled = none) (hit : s.heap.IsListIter it l i) (hl : s.heap.IsList l items) (hx : items[i]? = none)
    (hE : ∀ h' e, Heap.ExtBut it s.heap h' → Shared.TypeIs { s with heap := h' } (.ref e) "StopIteration" → E (.ref e) { s with heap := h' }) : wpAny (model prog w) A (Builtin.SmallTypes.nextOf (.ref it)) Q E s := by
  obtain ⟨o, ho, hc, hd⟩ := id hit
  obtain ⟨ol, hol, _, nl, hdl⟩ := hl
  unfold Builtin.SmallTypes.nextOf
  refine wpAny_bind (wpAny_callSpecial?_slot (name := Str.ofString "__next__") hit.typeIs slot_listiter_next
    (wpAny_call_entry slot_listiter_next hit.typeIs entry_listiter_next ?_ (args_listiter_next _)))
  show wpAny _ _ (field (.ref it) 0 >>= _) _ _ s
  refine wpAny_bind (wpAny_field ho hd (x := .ref l) rfl ?_)
  show wpAny _ _ (if (Value.ref l == Value.none) = true then _ else _) _ _ s
  rw [if_neg (show ¬ ((Value.ref l == Value.none) = true) from Bool.false_ne_true)]
  show wpAny _ _ (field (.ref it) 1 >>= _) _ _ s
  refine wpAny_bind (wpAny_field ho hd (x := .int i 0) rfl ?_)
  show wpAny _ _ (seqItems? (.ref l) >>= _) _ _ s
  refine wpAny_bind (wpAny_seqItems hol hdl ?_)
  simp only [Int.toNat_natCast, hx]
  refine wpAny_bind (wpAny_rule (wpAny_bind (wpAny_setField ho hd (by simp) ?_)))
  show wpAny _ _ (newExc (.type "StopIteration") [] >>= _) _ _ _
  refine wpAny_bind ?_
  simp only [newExc, newTuple]
  refine wpAny_bind (wpAny_newObj_type ?_ (by size_fits))
  refine wpAny_bind (m := firstArgMember _ _) (wpAny_of_eq (a := Value.none) (by first | rfl | (simp only [firstArgMember]; rfl)) ?_)
  refine wpAny_newObj_type ?_ (by size_fits)
  simp only [raiseNew]
  refine wpAny_bind (wpAny_handled ?_)
  rw [show A.in1.handled = none from hh]
  refine wpAny_bind (wpAny_pure (wpAny_throw ?_))
  exact hE _ _ (((Heap.SameBut.update ..).extBut.push _).push _) ⟨_, Heap.get?_push_size _ rfl, rfl⟩
theorem map_item {mo tup q it l : Addr} {i n : Nat} {items : Array Value} {x : Value} {Q : Option Value → Shared → Prop} (hm : s.heap.get? mo = some (mapO tup q)) (ht : s.heap.get? tup = some (tupO [.ref it] n)) (hit : s.heap.IsListIter it l i) (hl : s.heap.IsList l items) (hx : items[i]? = some x) (hne : mo ≠ it)
    (hQ : ∀ h', h'.IsListIter it l (i + 1) → Heap.SameBut it s.heap h' → wpAny (model prog w) A.in1 (call (.ref q) [x]) (fun v => Q (some v)) (fun _ _ => False) { s with heap := h' }) :
    wpAny (model prog w) A (pyNext (.ref mo)) Q E s := by
  have hT : s.TypeIs (.ref mo) "map" := ⟨_, hm, rfl⟩
  unfold pyNext
  refine wpAny_bind (wpAny_attempt (wpAny_callSpecial?_slot (name := Str.ofString "__next__") hT slot_map_next
    (wpAny_call_entry slot_map_next hT entry_map_next ?_ (args_map_next _))))
  show wpAny _ _ (field (.ref mo) 0 >>= _) _ _ s
  refine wpAny_bind (wpAny_field hm rfl (x := .ref tup) rfl ?_)
  show wpAny _ _ (seqItems? (.ref tup) >>= _) _ _ s
  refine wpAny_bind (wpAny_seqItems ht rfl ?_)
  dsimp only
  refine wpAny_bind ?_
  rw [← Array.forIn_toList]
  show wpAny _ _ (forIn [Value.ref it] _ _) _ _ _
  rw [List.forIn_cons]
  refine wpAny_bind (wpAny_bind (wpAny_holding (nextOf_item hit hl hx fun h' hit' hs => wpAny_pure ?_)))
  dsimp only
  rw [List.forIn_nil]
  refine wpAny_pure ?_
  have hm' : h'.get? mo = some (mapO tup q) := (hs.2 _ hne).trans hm
  refine wpAny_bind (wpAny_field hm' rfl (x := .ref q) rfl ?_)
  refine wpAny_bind (wpAny_holding (wpAny_mono (hQ h' hit' hs) (fun v s' hv => ?_) fun _ _ e => e.elim))
  exact wpAny_bind (wpAny_letGo (wpAny_pure ⟨_, rfl, wpAny_pure hv⟩))
theorem map_end {mo tup q it l : Addr} {i n : Nat} {items : Array Value} {Q : Option Value → Shared → Prop} (hh : A.handled = none) (hm : s.heap.get? mo = some (mapO tup q)) (ht : s.heap.get? tup = some (tupO [.ref it] n)) (hit : s.heap.IsListIter it l i) (hl : s.heap.IsList l items) (hx : items[i]? = none)
    (hQ : ∀ h', Heap.ExtBut it s.heap h' → Q none { s with heap := h' }) : wpAny (model prog w) A (pyNext (.ref mo)) Q E s := by
  have hT : s.TypeIs (.ref mo) "map" := ⟨_, hm, rfl⟩
  unfold pyNext
  refine wpAny_bind (wpAny_attempt (wpAny_callSpecial?_slot (name := Str.ofString "__next__") hT slot_map_next
    (wpAny_call_entry slot_map_next hT entry_map_next ?_ (args_map_next _))))
  show wpAny _ _ (field (.ref mo) 0 >>= _) _ _ s
  refine wpAny_bind (wpAny_field hm rfl (x := .ref tup) rfl ?_)
  show wpAny _ _ (seqItems? (.ref tup) >>= _) _ _ s
  refine wpAny_bind (wpAny_seqItems ht rfl ?_)
  dsimp only
  refine wpAny_bind ?_
  rw [← Array.forIn_toList]
  show wpAny _ _ (forIn [Value.ref it] _ _) _ _ _
  rw [List.forIn_cons]
  refine wpAny_bind (wpAny_bind (wpAny_holding (nextOf_end hh hit hl hx fun h' e he hT' => ?_)))
  refine wpAny_bind (wpAny_isInstance (T := "StopIteration") (b := true) hT' isSubtype_stop ?_)
  exact wpAny_pure (hQ _ he)
noncomputable def TpV (news : List (Addr × Obj)) (v : Value) (b : Trip) : Prop := ∃ (t : Addr) (n : Nat) (t1 t2 t3 : Tok), v = .ref t ∧ (t, tupO [.int b.1 t1, .int b.2.1 t2, .int b.2.2 t3] n) ∈ news
inductive TpAll (news : List (Addr × Obj)) : List Value → List Trip → Prop
  | nil : TpAll news [] []
  | cons {v b vs bs} : TpV news v b → TpAll news vs bs → TpAll news (v :: vs) (b :: bs)
theorem TpV.mono {news news' : List (Addr × Obj)} {v : Value} {b : Trip} (h : TpV news v b) (hs : ∀ p ∈ news, p ∈ news') : TpV news' v b := h.imp fun _ y => y.imp fun _ y => y.imp fun _ y => y.imp fun _ y => y.imp fun _ y => ⟨y.1, hs _ y.2⟩
theorem TpAll.mono {news news' : List (Addr × Obj)} (hs : ∀ p ∈ news, p ∈ news') : ∀ {vs : List Value} {bs : List Trip}, TpAll news vs bs → TpAll news' vs bs := fun h => by
  induction h with
  | nil => exact .nil
  | cons h _ ih => exact .cons (h.mono hs) ih
theorem TpAll.length {news : List (Addr × Obj)} : ∀ {vs : List Value} {bs : List Trip}, TpAll news vs bs → vs.length = bs.length := fun h => by
  induction h with
  | nil => rfl
  | cons _ _ ih => exact congrArg (· + 1) ih
theorem TpAll.snoc {news : List (Addr × Obj)} {v : Value} {b : Trip} (hv : TpV news v b) : ∀ {vs : List Value} {bs : List Trip}, TpAll news vs bs → TpAll news (vs ++ [v]) (bs ++ [b]) := fun h => by
  induction h with
  | nil => exact .cons hv .nil
  | cons h _ ih => exact .cons h ih
theorem TpAll.at {news : List (Addr × Obj)} : ∀ {vs : List Value} {bs : List Trip}, TpAll news vs bs → ∀ i (hi : i < vs.length) (hj : i < bs.length), TpV news vs[i] bs[i] := fun h => by
  induction h with
  | nil => exact fun _ h => absurd h (Nat.not_lt_zero _)
  | cons h _ ih => exact fun i => Nat.casesOn i (fun _ _ => h) (fun i hi hj => ih i (Nat.lt_of_succ_lt_succ hi) (Nat.lt_of_succ_lt_succ hj))
end
section
variable {w : World} {base : Heap} {p : Program} {loose : List Str} {mean : ExcName → Option Value} {mg mb : Str → Option Value} {A : Around} {cn : Str} {cs : Scope} {a : Addr} {ccd : Value} {cl : List (Str × Addr)} {outer : List Env} {A₀ : Around} {h₀ : Heap} {L : Addr} {m : Str → Option Value}
theorem ext_loop (hh : A.handled = none) (hf : A.frames = some (envX cn cs L a ccd cl :: outer)) (B : Below A₀ base outer h₀) (X : (HD.K w.params).In h₀) (T : Top p loose mean mg mb h₀) (hk : cs.kind = .function) (hd : A.depth + 1 < recursionLimit) (hu : A.units + 16 < cLine)
    {S mo tup q it l : Addr} {vs : List Value} {bs : List Trip} {nl nt : Nat} (hz : bs.length ≤ 64) (hSi : S ≠ it) {R : Result → Shared → Prop} :
    ∀ (k i : Nat) (s : Shared) (acc : Array Value) (c : Nat) (oi : Obj) (rest : News0), bs.length - i = k → i ≤ bs.length → MtAll rest acc.toList (bs.take i) → TpAll rest vs bs → (l, listOf vs.toArray nl) ∈ rest → (q, methodObj (.ref 170) (.ref 216)) ∈ rest → (mo, mapO tup q) ∈ rest → (tup, tupO [.ref it] nt) ∈ rest →
      oi.cls = .type "list_iterator" → oi.data = .fields #[.ref l, .int i 0] → Fr h₀ L s.heap m → News h₀ L s.heap ((S, listOf acc c) :: (it, oi) :: rest) → (∀ x ∈ rest, x.1 ≠ S) → (∀ x ∈ rest, x.1 ≠ it) →
      (∀ h' tk' acc' c' rest', Fr h₀ L h' m → (∀ x ∈ rest, x ∈ rest') → News h₀ L h' ((S, listOf acc' c') :: rest') → MtAll rest' acc'.toList bs → (∀ x ∈ rest', x.1 ≠ S) → R (.ok (.ret .none)) { s with heap := h', toks := tk' }) →
      codeAny (model PG w) A (.builtin "list.extend.loop" ⟨[.ref S, .ref mo, .none], []⟩) R s := by
  intro k
  induction k with
  | zero =>
    intro i s acc c oi rest hki hi hM hT hl hq hmo htu hoc hod F N hS hI hR
    have hin : i = bs.length := by exact dn20 0x3efb8001d80078330040 (by k_ne) hki hi
    subst hin
    have hsz := hT.length
    refine codeAny_builtin PySem.F.entry_extend_loop ?_
    rw [Around.under_plainId PySem.F.plain_extend_loop _]
    show wpAny _ A.in1 (pyNext (.ref mo) >>= _) _ _ s
    have nm := N (mo, _) (.tail _ (.tail _ hmo))
    have nt := N (tup, _) (.tail _ (.tail _ htu))
    have nl := N (l, _) (.tail _ (.tail _ hl))
    have ni := N (it, oi) (.tail _ (.head _))
    refine wpAny_bind (map_end (by exact hh) nm.1 nt.1 ⟨_, ni.1, hoc, hod⟩ ⟨_, nl.1, rfl, _, rfl⟩ (by simp [hsz]) fun h' he => ?_)
    have F' : Fr h₀ L h' m := ⟨F.ns.extBut he (Ne.symm ni.2.1), fun b x e => he b x (fun q => by rw [q, ni.2.2] at e; cases e) (F.keep b x e), F.above⟩
    have N' : News h₀ L h' ((S, listOf acc c) :: rest) := fun x hx => by
      rcases List.mem_cons.mp hx with rfl | hx
      · have z := N (S, listOf acc c) (.head _)
        exact ⟨he _ _ hSi z.1, z.2⟩
      · have z := N x (.tail _ (.tail _ hx))
        exact ⟨he _ _ (hI x hx) z.1, z.2⟩
    rw [List.take_length] at hM
    exact wpAny_pure (hR h' s.toks acc c rest F' (fun x hx => hx) N' hM hS)
  | succ k ih =>
    intro i s acc c oi rest hki hi hM hT hl hq hmo htu hoc hod F N hS hI hR
    have hlt : i < bs.length := by exact dn30 0x3edc0078bcd0b0040 (by k_ne) hki
    have hsz := hT.length
    have hlv : i < vs.length := by exact dn30 0x3efb7080e010b7040 (by k_ne) hlt hsz
    refine codeAny_builtin PySem.F.entry_extend_loop ?_
    rw [Around.under_plainId PySem.F.plain_extend_loop _]
    show wpAny _ A.in1 (pyNext (.ref mo) >>= _) _ _ s
    have nm := N (mo, _) (.tail _ (.tail _ hmo))
    have nt := N (tup, _) (.tail _ (.tail _ htu))
    have nl := N (l, _) (.tail _ (.tail _ hl))
    have ni := N (it, oi) (.tail _ (.head _))
    refine wpAny_bind (map_item (x := vs[i]) nm.1 nt.1 ⟨_, ni.1, hoc, hod⟩ ⟨_, nl.1, rfl, _, rfl⟩ (by simp [hlv]) (hI _ hmo) fun h1 hit1 hs1 => ?_)
    obtain ⟨oi', ho', hc', hd'⟩ := hit1
    have F1 : Fr h₀ L h1 m := kas_fr F hs1 ni.2.1 ni.2.2
    have N1 : News h₀ L h1 ((S, listOf acc c) :: (it, oi') :: rest) := news_set (pre := [(S, listOf acc c)]) N (fun x hx => by rw [List.mem_singleton.mp hx]; exact hSi) hI hs1 ho'
    obtain ⟨t, n, t1, t2, t3, et, hmt⟩ := hT.at i hlv hlt
    rw [et]
    refine call_meth N1 (.tail _ (.tail _ hq)) ?_
    refine ConC.useA (c_make t _ _ _ n (.tail _ (.tail _ hmt))) (by exact hh) (by exact hf) B F1 X N1 T hk (by exact hd) (by simp only [units_in1]; exact dn20 0x3edc1bf1354bcdbcd03706f700 (by k_ne) hu) ?_
    intro r dx l1 l2 h2 tk2 F2 N2
    dsimp only
    have nS := N2 (S, listOf acc c) (.tail _ (.tail _ (.head _)))
    show wpAny _ A.in1 (updateSeq S (·.push (.ref r)) >>= _) _ _ _
    have hacc := hM.length
    rw [List.length_take, Nat.min_eq_left hi, Array.length_toList] at hacc
    refine wpAny_bind ?_
    have s2 := Heap.SameBut.update h2 S (Obj.mapSeq (·.push (.ref r)))
    obtain ⟨c2, hc2⟩ : ∃ c2, (h2.update S (Obj.mapSeq (·.push (.ref r)))).get? S = some (listOf (acc.push (.ref r)) c2) := ⟨_, get?_update_seq nS.1 fun x => x.push (.ref r)⟩
    have dS : S < dx := l2 (S, listOf acc c) (.head _)
    have dI : it < dx := l2 (it, oi') (.tail _ (.head _))
    have hnS : ∀ x ∈ ((r, matchV dx [.int bs[i].1 t1, .int bs[i].2.1 t2, .int bs[i].2.2 t3]) :: (dx, emptyDict) :: rest), x.1 ≠ S := fun x hx => by
      rcases List.mem_cons.mp hx with rfl | hx
      · exact Nat.ne_of_gt (Nat.lt_trans dS l1)
      rcases List.mem_cons.mp hx with rfl | hx
      · exact Nat.ne_of_gt dS
      · exact hS x hx
    have hnI : ∀ x ∈ ((r, matchV dx [.int bs[i].1 t1, .int bs[i].2.1 t2, .int bs[i].2.2 t3]) :: (dx, emptyDict) :: rest), x.1 ≠ it := fun x hx => by
      rcases List.mem_cons.mp hx with rfl | hx
      · exact Nat.ne_of_gt (Nat.lt_trans dI l1)
      rcases List.mem_cons.mp hx with rfl | hx
      · exact Nat.ne_of_gt dI
      · exact hI x hx
    have N3 : News h₀ L (h2.update S (Obj.mapSeq (·.push (.ref r)))) ((S, listOf (acc.push (.ref r)) c2) :: (it, oi') :: (r, matchV dx [.int bs[i].1 t1, .int bs[i].2.1 t2, .int bs[i].2.2 t3]) :: (dx, emptyDict) :: rest) := by
      have z := news_set (pre := [(r, matchV dx [.int bs[i].1 t1, .int bs[i].2.1 t2, .int bs[i].2.2 t3]), (dx, emptyDict)]) N2 (fun x hx => hnS x (by rcases List.mem_cons.mp hx with rfl | hx; exact .head _; rw [List.mem_singleton.mp hx]; exact .tail _ (.head _))) (fun x hx => by
        rcases List.mem_cons.mp hx with rfl | hx
        · exact fun e => hSi e.symm
        · exact hS x hx) s2 hc2
      intro x hx
      rcases List.mem_cons.mp hx with rfl | hx
      · exact z _ (.tail _ (.tail _ (.head _)))
      rcases List.mem_cons.mp hx with rfl | hx
      · exact z _ (.tail _ (.tail _ (.tail _ (.head _))))
      rcases List.mem_cons.mp hx with rfl | hx
      · exact z _ (.head _)
      rcases List.mem_cons.mp hx with rfl | hx
      · exact z _ (.tail _ (.head _))
      · exact z _ (.tail _ (.tail _ (.tail _ (.tail _ hx))))
    have sub : ∀ x ∈ rest, x ∈ ((r, matchV dx [.int bs[i].1 t1, .int bs[i].2.1 t2, .int bs[i].2.2 t3]) :: (dx, emptyDict) :: rest) := fun x hx => .tail _ (.tail _ hx)
    refine wpAny_updateSeq nS.1 rfl (wpAny_pure ⟨plainId_quiet PySem.F.plain_extend_loop _, ih (i + 1) _ (acc.push (.ref r)) c2 oi' _ (by exact dn30 0x3ee02c2f341038bcd0b0040 (by k_ne) hki) (by exact dn20 0x3ed81bcd037040 (by k_ne) hlt) ?_ (hT.mono sub) (sub _ hl) (sub _ hq) (sub _ hmo) (sub _ htu) hc' hd' (kas_fr F2 s2 nS.2.1 nS.2.2) N3 hnS hnI ?_⟩) (by rw [hacc, sizeLine_eq]; exact dn20 0x3efb6000000000001000000b41dc0076040b00 (by k_ne) hz hlt) (by rw [Array.size_push, hacc, sizeLine_eq]; exact dn20 0x3efb6bcd000000000001000000b6f341dc0076040b00 (by k_ne) hz hlt)
    · rw [Array.toList_push, show bs.take (i + 1) = bs.take i ++ [bs[i]] by simp]
      exact (hM.mono sub).snoc ⟨r, dx, t1, t2, t3, rfl, .head _⟩
    · intro h' tk' acc' c' rest' F' hs' N' M' S'
      exact hR h' tk' acc' c' rest' F' (fun x hx => hs' x (sub x hx)) N' M' S'
end
end Mine
end
section
open PySem PySem.W PyProof.Rows PySem.Calls
set_option maxRecDepth 100000
set_option maxHeartbeats 1000000
namespace Mine
theorem slot_map_init : Slot "map" "__init__" "object.__init__" :=
  .of (owner := "object") (n := "__init__") (by rw [typeLookup_type, builtinLookup_eq_fast]; kernel_rfl) (by decide +kernel) (by decide +kernel) (by decide +kernel)
    (by first | exact .inl (by decide +kernel) | exact .inr (by decide +kernel)) (by rw [isSubtype_type]; kernel_rfl)
theorem mro_map : mroOf (.type "map") = pure [.type "map", .type "object"] := by rw [mroOf_type]; kernel_rfl
theorem lookup_map_new : typeLookup (.type "map") "__new__" = pure (some (.builtin "map.__new__")) := by rw [typeLookup_type, builtinLookup_eq_fast]; kernel_rfl
theorem called_map : TypeCalled "map" "map.__new__" "object.__init__" :=
  ⟨by decide +kernel, by decide +kernel, ⟨_, _, mro_map⟩, madeBy_type mro_map lookup_map_new (by decide +kernel), by decide +kernel, by rw [isSubtype_type]; kernel_rfl, slot_map_init⟩
theorem sub_map_self : isSubtype (.type "map") (.type "map") = pure true := by rw [isSubtype_type]; kernel_rfl
theorem typeCall_map_2 (a b : Value) : checkTypeCall "map" ⟨[a, b], []⟩ = pure () := by kernel_rfl
theorem newCall_map_2 (a b : Value) : checkBuiltinCall "map.__new__" ⟨[.type "map", a, b], []⟩ = pure () := by kernel_rfl
theorem entry_map_new : entryFor table "map.__new__" = some Builtin.«map.__new__» := entryFor_of_tree (by kernel_rfl)
theorem plain_map_new : plainId "map.__new__" = true := by decide +kernel
theorem args_oi_3 (a b c : Value) : argsOk "object.__init__" ⟨[a, b, c], []⟩ := by unfold argsOk; kernel_rfl
theorem newClass_map (a b : Value) : Builtin.SmallTypes.newClass "map" ⟨[.type "map", a, b], []⟩ = pure (.type "map", [a, b]) := by
  unfold Builtin.SmallTypes.newClass
  simp only [isType, sub_map_self, pure_bind, Bool.not_true, Bool.false_eq_true, if_false]
section
variable {prog : Program} {w : World} {A : Around} {E : Value → Shared → Prop} {s : Shared}
theorem code_map_new {q l : Addr} {items : Array Value} {Q₁ : Value → Shared → Prop} (hl : s.heap.IsList l items)
    (h : Q₁ (.ref (s.heap.objs.size + 2)) { s with heap := ((s.heap.push { cls := .type "list_iterator", data := .fields #[.ref l, .int 0 0] }).push (tupO [.ref s.heap.objs.size] 0)).push (mapO (s.heap.objs.size + 1) q) }) :
    codeAny (model prog w) A (.call (.builtin "map.__new__") ⟨[.type "map", .ref q, .ref l], []⟩) (wants Q₁ E) s := by
  refine codeAny_of_tree ?_
  show wpAny _ A.in1 (do checkBuiltinCall "map.__new__" ⟨[.type "map", .ref q, .ref l], []⟩; again (.builtin "map.__new__" ⟨[.type "map", .ref q, .ref l], []⟩)) _ _ s
  refine wpAny_bind (wpAny_of_eq (newCall_map_2 _ _) (wpAny_pure ⟨plainId_quiet plain_map_new _, codeAny_builtin entry_map_new ?_⟩))
  rw [Around.under_plainId plain_map_new _]
  unfold Builtin.«map.__new__»
  refine wpAny_bind (wpAny_of_eq (newClass_map _ _) ?_)
  dsimp only
  refine wpAny_bind (wpAny_of_eq (a := ()) (by first | rfl | kernel_rfl) ?_)
  rw [if_neg (show ¬ ([Value.ref q, Value.ref l].length < 2) from Nat.lt_irrefl 2)]
  show wpAny _ _ (Builtin.SmallTypes.iterAll [.ref l] >>= _) _ _ _
  refine wpAny_bind ?_
  unfold Builtin.SmallTypes.iterAll
  refine wpAny_bind ?_
  rw [List.forIn_cons]
  refine wpAny_bind (wpAny_bind (wpAny_holding (wpAny_pyIter_list hl (wpAny_pure ?_))))
  dsimp only
  rw [List.forIn_nil]
  refine wpAny_pure (wpAny_pure ?_)
  refine wpAny_bind (wpAny_newTuple ?_ (by show 1 ≤ sizeLine; rw [sizeLine_eq]; omega))
  refine wpAny_bind ?_
  unfold Builtin.SmallTypes.newRecord
  dsimp only
  refine wpAny_newObj_type ?_ (by size_fits)
  refine wpAny_pure ?_
  have e1 : (s.heap.push { cls := .type "list_iterator", data := .fields #[.ref l, .int 0 0] }).objs.size = s.heap.objs.size + 1 := Heap.size_push _ _
  have e2 : ((s.heap.push { cls := .type "list_iterator", data := .fields #[.ref l, .int 0 0] }).push (tupO [.ref s.heap.objs.size] 0)).objs.size = s.heap.objs.size + 2 := by rw [Heap.size_push, e1]
  show Q₁ (.ref ((s.heap.push { cls := .type "list_iterator", data := .fields #[.ref l, .int 0 0] }).push (tupO [.ref s.heap.objs.size] 0)).objs.size) { s with heap := ((s.heap.push { cls := .type "list_iterator", data := .fields #[.ref l, .int 0 0] }).push (tupO [.ref s.heap.objs.size] 0)).push (mapO (s.heap.push { cls := .type "list_iterator", data := .fields #[.ref l, .int 0 0] }).objs.size q) }
  rw [e2, e1]
  exact h
noncomputable abbrev liO (l : Addr) (i : Nat) : Obj := { cls := .type "list_iterator", data := .fields #[.ref l, .int i 0] }
theorem call_map {h₀ : Heap} {L : Addr} {m : Str → Option Value} {news : List (Addr × Obj)} {q l : Addr} {items : Array Value} {n : Nat} {Q : Value → Shared → Prop} (F : Fr h₀ L s.heap m) (N : News h₀ L s.heap news) (hl : (l, listOf items n) ∈ news)
    (h : ∀ (mo tup it : Addr) (h' : Heap), (∀ p ∈ news, p.1 < it) → @LT.lt Nat _ it tup → @LT.lt Nat _ tup mo → Fr h₀ L h' m → News h₀ L h' ((mo, mapO tup q) :: (tup, tupO [.ref it] 0) :: (it, liO l 0) :: news) → Q (.ref mo) { s with heap := h' }) :
    wpAny (model prog w) A (call (.type "map") [.ref q, .ref l]) Q E s := by
  have nl := N _ hl
  refine callType_codes (Q₁ := fun obj s₁ => obj = .ref (s.heap.objs.size + 2) ∧ s₁ = { s with heap := ((s.heap.push (liO l 0)).push (tupO [.ref s.heap.objs.size] 0)).push (mapO (s.heap.objs.size + 1) q) }) called_map (typeCall_map_2 _ _) PySem.F.entry_object_init
    (code_map_new (items := items) ⟨_, nl.1, rfl, _, rfl⟩ ⟨rfl, rfl⟩) fun obj s₁ h₁ => ?_
  obtain ⟨rfl, rfl⟩ := h₁
  have N3 := ((N.push F (liO l 0)).push (F.push _) (tupO [.ref s.heap.objs.size] 0)).push ((F.push _).push _) (mapO (s.heap.objs.size + 1) q)
  rw [Heap.size_push, Heap.size_push] at N3
  have F3 : Fr h₀ L (((s.heap.push (liO l 0)).push (tupO [.ref s.heap.objs.size] 0)).push (mapO (s.heap.objs.size + 1) q)) m := ((F.push _).push _).push _
  have hT : Shared.TypeIs { s with heap := ((s.heap.push (liO l 0)).push (tupO [.ref s.heap.objs.size] 0)).push (mapO (s.heap.objs.size + 1) q) } (.ref (s.heap.objs.size + 2)) "map" := ⟨_, (N3 _ (.head _)).1, rfl⟩
  refine ⟨hT, args_oi_3 _ _ _, ?_⟩
  have z := h (s.heap.objs.size + 2) (s.heap.objs.size + 1) s.heap.objs.size _ (fun p hp => Heap.lt_size (N p hp).1) (Nat.lt_succ_self _) (Nat.lt_succ_self _) F3 N3
  have l1 := slot_map_init.lookup
  have l2 := called_map.made
  have ne : (some "map.__new__" != some "object.__new__") = true := by decide
  unfold Builtin.«object.__init__»
  dsimp only
  simp only [List.isEmpty_cons, Bool.not_false, Bool.true_or, if_true]
  refine wpAny_bind (wpAny_typeOf hT ?_)
  rw [l1]
  refine wpAny_bind (wpAny_pure ?_)
  rw [l2]
  refine wpAny_bind (wpAny_pure ?_)
  simp only [bne_self_eq_false, ne, Bool.or_true, Bool.not_true, Bool.false_eq_true, if_false]
  exact wpAny_pure ⟨rfl, z⟩
end
end Mine
end
section
open PySem PySem.W PyProof.Rows PySem.Calls
set_option maxRecDepth 100000
set_option maxHeartbeats 1000000
namespace Mine
theorem slot_map_iter : Slot "map" "__iter__" "map.__iter__" :=
  .of (owner := "map") (n := "__iter__") look_map_iter (by decide +kernel) (by decide +kernel) (by decide +kernel) (.inl (by decide +kernel)) (by rw [isSubtype_type]; kernel_rfl)
theorem entry_map_iter : entryFor table "map.__iter__" = some Builtin.«dict_keyiterator.__iter__» :=
  entryFor_alias (id' := "dict_keyiterator.__iter__") (by kernel_rfl) (by decide +kernel) (by decide +kernel) (by kernel_rfl)
theorem args_map_iter (a : Value) : argsOk "map.__iter__" ⟨[a], []⟩ := by unfold argsOk; kernel_rfl
theorem map_no_len : typeLookup (.type "map") "__len__" = pure none := by rw [typeLookup_type, builtinLookup_eq_fast]; kernel_rfl
theorem map_no_hint : typeLookup (.type "map") "__length_hint__" = pure none := by rw [typeLookup_type, builtinLookup_eq_fast]; kernel_rfl
theorem upd_seq {h₀ h : Heap} {L S : Addr} {m : Str → Option Value} {rest : List (Addr × Obj)} {xs : Array Value} {c : Nat} (F : Fr h₀ L h m) (N : News h₀ L h ((S, listOf xs c) :: rest)) (hS : ∀ x ∈ rest, x.1 ≠ S) (f : Array Value → Array Value) :
    ∃ c', Fr h₀ L (h.update S (Obj.mapSeq f)) m ∧ News h₀ L (h.update S (Obj.mapSeq f)) ((S, listOf (f xs) c') :: rest) := by
  have nS := N _ (.head _)
  have s2 := Heap.SameBut.update h S (Obj.mapSeq f)
  obtain ⟨c2, hc2⟩ : ∃ c2, (h.update S (Obj.mapSeq f)).get? S = some (listOf (f xs) c2) := ⟨_, get?_update_seq nS.1 f⟩
  exact ⟨c2, kas_fr F s2 nS.2.1 nS.2.2, news_set (pre := []) N (fun _ hx => nomatch hx) hS s2 hc2⟩
section
variable {w : World} {base : Heap} {p : Program} {loose : List Str} {mean : ExcName → Option Value} {mg mb : Str → Option Value} {A : Around} {cn : Str} {cs : Scope} {a : Addr} {ccd : Value} {cl : List (Str × Addr)} {outer : List Env} {A₀ : Around} {h₀ : Heap} {L : Addr} {m : Str → Option Value} {s : Shared} {E : Value → Shared → Prop}
theorem call_list_map (hh : A.handled = none) (hf : A.frames = some (envX cn cs L a ccd cl :: outer)) (B : Below A₀ base outer h₀) (F : Fr h₀ L s.heap m) (X : (HD.K w.params).In h₀) (T : Top p loose mean mg mb h₀) (hk : cs.kind = .function) (hd : A.depth + 1 < recursionLimit) (hu : A.units + 17 < cLine)
    {mo tup q it l : Addr} {vs : List Value} {bs : List Trip} {nl nt : Nat} {rest : News0} {Q : Value → Shared → Prop} (hz : bs.length ≤ 64) (N : News h₀ L s.heap ((it, liO l 0) :: rest)) (hT : TpAll rest vs bs) (hl : (l, listOf vs.toArray nl) ∈ rest) (hq : (q, methodObj (.ref 170) (.ref 216)) ∈ rest) (hmo : (mo, mapO tup q) ∈ rest) (htu : (tup, tupO [.ref it] nt) ∈ rest) (hI : ∀ x ∈ rest, x.1 ≠ it)
    (h : ∀ (S : Addr) (h' : Heap) (tk' : Nat) (acc' : Array Value) (c' : Nat) (rest' : News0), (∀ x ∈ rest, x.1 < S) → Fr h₀ L h' m → (∀ x ∈ rest, x ∈ rest') → News h₀ L h' ((S, listOf acc' c') :: rest') → MtAll rest' acc'.toList bs → (∀ x ∈ rest', x.1 ≠ S) → Q (.ref S) { s with heap := h', toks := tk' }) :
    wpAny (model PG w) A (call (.type "list") [.ref mo]) Q E s := by
  refine callType_codes (Q₁ := fun obj s₁ => obj = .ref s.heap.objs.size ∧ s₁ = { s with heap := s.heap.push (listOf #[] 0) }) PySem.F.called_list (PySem.F.typeCall_list_1 _) PySem.F.entry_list_init
    (code_list_new _ ⟨rfl, rfl⟩) fun obj s₁ h₁ => ?_
  obtain ⟨rfl, rfl⟩ := h₁
  have hlt : ∀ x ∈ ((it, liO l 0) :: rest), x.1 < s.heap.objs.size := fun x hx => Heap.lt_size (N x hx).1
  generalize hS : s.heap.objs.size = S at *
  have N1 : News h₀ L (s.heap.push (listOf #[] 0)) ((S, listOf #[] 0) :: (it, liO l 0) :: rest) := by rw [← hS]; exact N.push F _
  have F1 : Fr h₀ L (s.heap.push (listOf #[] 0)) m := F.push _
  generalize s.heap.push (listOf #[] 0) = hp at *
  have hne : ∀ x ∈ ((it, liO l 0) :: rest), x.1 ≠ S := fun x hx => Nat.ne_of_lt (hlt x hx)
  refine ⟨⟨_, (N1 _ (.head _)).1, rfl⟩, PySem.F.args_list_init_2 _ _, ?_⟩
  show wpAny _ _ (do let old ← Builtin.List.listItems (.ref S); Builtin.List.listUpdate (.ref S) (fun _ => #[]); letGo old.toList.reverse; Builtin.List.listExtendWith (.ref S) (.ref mo) .none) _ _ _
  refine wpAny_bind ?_
  unfold Builtin.List.listItems
  refine wpAny_bind (wpAny_seqItems (N1 _ (.head _)).1 rfl (wpAny_pure ?_))
  show wpAny _ _ (updateSeq S (fun _ => #[]) >>= fun _ => letGo (#[] : Array Value).toList.reverse >>= fun _ => Builtin.List.listExtendWith (.ref S) (.ref mo) .none) _ _ _
  refine wpAny_bind (wpAny_updateSeq (N1 _ (.head _)).1 rfl ?_ (by size_fits) (by seq_fits))
  obtain ⟨c2, F2, N2⟩ := upd_seq F1 N1 hne (fun _ => (#[] : Array Value))
  refine wpAny_bind (wpAny_letGo ?_)
  dsimp only
  generalize hp.update S (Obj.mapSeq fun _ => (#[] : Array Value)) = hp2 at *
  have nm := N2 (mo, _) (.tail _ (.tail _ hmo))
  have tm : Shared.TypeIs { s with heap := hp2 } (.ref mo) "map" := ⟨_, nm.1, rfl⟩
  unfold Builtin.List.listExtendWith
  refine wpAny_bind (wpAny_typeOf tm ?_)
  have hSm : S ≠ mo := fun e => hne (mo, _) (.tail _ hmo) e.symm
  have b1 : Builtin.List.listSameRef (.ref S) (.ref mo) = false := by simp [Builtin.List.listSameRef, hSm]
  have b2 : (Value.type "map" == Value.type "list") = false := by decide
  have b3 : (Value.type "map" == Value.type "tuple") = false := by decide
  simp only [b1, b2, b3, Bool.or_false, Bool.false_eq_true, if_false]
  refine wpAny_bind (wpAny_pyIter_slot tm slot_map_iter (wpAny_call_entry slot_map_iter tm entry_map_iter ?_ (args_map_iter _)))
  show wpAny _ _ (ret (.ref mo)) _ _ _
  refine wpAny_pure ⟨_, rfl, "map", _, tm, slot_map_next.lookup, ?_⟩
  refine wpAny_bind (wpAny_holding ?_)
  unfold Builtin.List.listLengthHint
  refine wpAny_bind (wpAny_specialOf tm map_no_len ?_)
  show wpAny _ _ (specialOf (Value.ref mo) (Str.ofString "__length_hint__") >>= _) _ _ _
  refine wpAny_bind (wpAny_specialOf tm map_no_hint ?_)
  refine wpAny_pure ?_
  show wpAny _ _ (rule "list.extend.makes-room" >>= fun _ => Builtin.List.listTouch (.ref S) >>= fun _ =>
    again (.builtin "list.extend.loop" ⟨[.ref S, .ref mo, .none], []⟩)) _ _ _
  refine wpAny_bind (wpAny_rule ?_)
  refine wpAny_bind ?_
  show wpAny _ _ (updateSeq S (·.push .none) >>= fun _ => updateSeq S (·.pop)) _ _ _
  refine wpAny_bind (wpAny_updateSeq (N2 _ (.head _)).1 rfl ?_ (by size_fits) (by seq_fits))
  obtain ⟨c3, F3, N3⟩ := upd_seq F2 N2 hne (·.push Value.none)
  dsimp only
  generalize hp2.update S (Obj.mapSeq (·.push Value.none)) = hp3 at *
  refine wpAny_updateSeq (N3 _ (.head _)).1 rfl ?_ (by rw [Array.size_push]; show 0 + 1 ≤ sizeLine; rw [sizeLine_eq]; (first | lia | omega)) (by show 0 ≤ sizeLine + 1; (first | lia | omega))
  obtain ⟨c4, F4, N4⟩ := upd_seq F3 N3 hne (·.pop)
  dsimp only
  generalize hp3.update S (Obj.mapSeq (·.pop)) = hp4 at *
  refine wpAny_pure ⟨plainId_quiet PySem.F.plain_extend_loop _, ?_⟩
  refine ext_loop (A := A.in1) (by exact hh) (by exact hf) B X T hk (by exact hd) (by show A.units + 1 + 16 < cLine; exact dn20 0x3edc1bdcbcd03706f740 (by k_ne) hu) hz (fun e => hne (it, _) (.head _) e.symm) bs.length 0 _ #[] c4 (liO l 0) rest (by (first | lia | omega)) (Nat.zero_le _) .nil hT hl hq hmo htu rfl rfl F4 N4 (fun x hx => hne x (.tail _ hx)) hI ?_
  intro h' tk' acc' c' rest' F' hs' N' M' S'
  exact ⟨rfl, h S h' tk' acc' c' rest' (fun x hx => hlt x (.tail _ hx)) F' hs' N' M' S'⟩
end
end Mine
end
section
open PySem PySem.W PyProof.Rows
namespace Mine
theorem freshC16 : True := by
  k_with_none
  w_top off
  (try (have _h : ∀ (M : Model) (A : Around) (Q : Flow → _) (E : Value → _) (s : Shared) (e : Env), wpAny M A (execs [] e) Q E s := by (intros; walk1; fail "no")))
  k_with "omega" => (first | with_reducible assumption | exact rm1 (by with_reducible assumption) rfl | exact rm2 (by with_reducible assumption) rfl | exact rm3 (by with_reducible assumption) rfl | exact rm4 (by with_reducible assumption) rfl | exact rm0 (by with_reducible assumption) | with_reducible exact ⟨by with_reducible assumption, by with_reducible assumption⟩ | with_reducible exact Or.inl (by with_reducible assumption) | with_reducible exact Or.inr (by with_reducible assumption) | with_reducible exact i1 (by decide) | with_reducible exact i2 | with_reducible exact i3 | with_reducible exact i4 (by decide) | with_reducible exact j1 (by with_reducible assumption) (by decide) | with_reducible exact j2 (by with_reducible assumption) (by decide) | with_reducible exact i5 (by with_reducible assumption) (by decide) | with_reducible exact i6 (by with_reducible assumption) (by decide) | with_reducible exact i7 (by with_reducible assumption))
  trivial
theorem wordsC16_1 : True := by
  k_with "call type:type" => ((with_reducible show wpAny _ _ (call _ [Value.bytes _ _]) _ _ _); refine PySem.call_type_of (Tx := "bytes") rfl (by decide +kernel) ?_)
  k_with "k_all" => (exact neLow (by assumption))
  trivial
noncomputable abbrev Quad := Nat × Nat × Nat × Nat
structure Flm (x y : Str) (q : Quad) (i j n : Nat) : Prop where
  h1 : q.1 ≤ q.2.1
  h2 : q.2.1 ≤ x.length
  h3 : q.2.2.1 ≤ q.2.2.2
  h4 : q.2.2.2 ≤ y.length
  hS : (flF x y q.1 q.2.2.1 q.2.2.2 (q.2.1 - q.1)).2 = ((i : Int), (j : Int), (n : Int))
  g1 : q.1 ≤ i
  g2 : i + n ≤ q.2.1
  g3 : q.2.2.1 ≤ j
  g4 : j + n ≤ q.2.2.2
  hL : i ≤ q.1 ∨ j ≤ q.2.2.1 ∨ x.cps.getD (i - 1) 0 ≠ y.cps.getD (j - 1) 0
  hR : q.2.1 ≤ i + n ∨ q.2.2.2 ≤ j + n ∨ x.cps.getD (i + n) 0 ≠ y.cps.getD (j + n) 0
noncomputable def pushL (q : Quad) (i j : Nat) : List Quad := if q.1 < i ∧ q.2.2.1 < j then [(q.1, i, q.2.2.1, j)] else []
noncomputable def pushR (q : Quad) (i j n : Nat) : List Quad := if i + n < q.2.1 ∧ j + n < q.2.2.2 then [(i + n, q.2.1, j + n, q.2.2.2)] else []
inductive QRun (x y : Str) : Nat → List Quad → List Trip → Prop
  | nil : QRun x y 0 [] []
  | skip {k qs q i j outs} : Flm x y q i j 0 → QRun x y k qs outs → QRun x y (k + 1) (qs ++ [q]) outs
  | take {k qs q i j n outs} : Flm x y q i j (n + 1) → QRun x y k (qs ++ pushL q i j ++ pushR q i j (n + 1)) outs → QRun x y (k + 1) (qs ++ [q]) (((i : Int), (j : Int), ((n + 1 : Nat) : Int)) :: outs)
noncomputable def QdV (news : News0) (v : Value) (q : Quad) : Prop := ∃ (t : Addr) (n : Nat) (t1 t2 t3 t4 : Tok), v = .ref t ∧ (t, tupO [.int (q.1 : Nat) t1, .int (q.2.1 : Nat) t2, .int (q.2.2.1 : Nat) t3, .int (q.2.2.2 : Nat) t4] n) ∈ news
inductive QdAll (news : News0) : List Value → List Quad → Prop
  | nil : QdAll news [] []
  | snoc {v q vs qs} : QdAll news vs qs → QdV news v q → QdAll news (vs ++ [v]) (qs ++ [q])
theorem quad_mk {news : News0} {D : Addr} {n : Nat} {a b c d : Int} {q : Quad} {t1 t2 t3 t4 : Tok} (h1 : a = (q.1 : Nat)) (h2 : b = (q.2.1 : Nat)) (h3 : c = (q.2.2.1 : Nat)) (h4 : d = (q.2.2.2 : Nat)) (hm : (D, tupO [.int a t1, .int b t2, .int c t3, .int d t4] n) ∈ news) : QdV news (.ref D) q := by
  subst h1 h2 h3 h4
  exact ⟨D, n, t1, t2, t3, t4, rfl, hm⟩
theorem tp_snoc {news rest : News0} {vs : List Value} {bs : List Trip} (h : TpAll rest vs bs) (hs : ∀ p ∈ rest, p ∈ news) {t : Addr} {n : Nat} {t1 t2 t3 : Tok} {i j k : Int} (hm : (t, tupO [.int i t1, .int j t2, .int k t3] n) ∈ news) : TpAll news (vs ++ [.ref t]) (bs ++ [(i, j, k)]) :=
  (h.mono hs).snoc ⟨t, n, t1, t2, t3, rfl, hm⟩
theorem mt_snoc {news rest : News0} {vs : List Value} {bs : List Trip} (h : MtAll rest vs bs) (hs : ∀ p ∈ rest, p ∈ news) {r dx : Addr} {t1 t2 t3 : Tok} {i j k : Int} (hm : (r, matchV dx [.int i t1, .int j t2, .int k t3]) ∈ news) : MtAll news (vs ++ [.ref r]) (bs ++ [(i, j, k)]) :=
  (h.mono hs).snoc ⟨r, dx, t1, t2, t3, rfl, hm⟩
theorem MtAll.get {news : News0} {v : Value} : ∀ {vs : List Value} {bs : List Trip} {i : Nat}, MtAll news vs bs → vs[i]? = some v → ∃ b, bs[i]? = some b ∧ MtV news v b := fun {_ _ i} h => by
  induction h generalizing i with
  | nil => exact fun h => nomatch h
  | cons h _ ih => cases i with
    | zero => exact fun e => ⟨_, rfl, Option.some.inj e ▸ h⟩
    | succ i => exact fun e => ih (i := i) e
noncomputable abbrev MgS := List Trip × Int × Int × Int
noncomputable def mgStep (s : MgS) (b : Trip) : MgS :=
  if s.2.1 + s.2.2.2 = b.1 ∧ s.2.2.1 + s.2.2.2 = b.2.1 then (s.1, s.2.1, s.2.2.1, s.2.2.2 + b.2.2) else (if s.2.2.2 = 0 then s.1 else s.1 ++ [(s.2.1, s.2.2.1, s.2.2.2)], b.1, b.2.1, b.2.2)
noncomputable def mgEnd (s : MgS) (la lb : Int) : List Trip := (if s.2.2.2 = 0 then s.1 else s.1 ++ [(s.2.1, s.2.2.1, s.2.2.2)]) ++ [(la, lb, 0)]
theorem MtAll.core {news : News0} : ∀ {vs : List Value} {bs : List Trip}, MtAll news vs bs → ∃ mt : News0, MtAll mt vs bs ∧ ∀ x ∈ mt, x ∈ news ∧ x.2.cls = .ref 216 := fun h => by
  induction h with
  | nil => exact ⟨[], .nil, fun _ h => nomatch h⟩
  | cons h _ ih =>
    obtain ⟨r, dx, t1, t2, t3, e, hm⟩ := h
    obtain ⟨mt, h1, h2⟩ := ih
    exact ⟨(r, _) :: mt, .cons ⟨r, dx, t1, t2, t3, e, .head _⟩ (h1.mono fun p hp => .tail _ hp), List.forall_mem_cons.mpr ⟨⟨hm, rfl⟩, h2⟩⟩
theorem ne_of_cls {h₀ h : Heap} {L : Addr} {news : News0} (N : News h₀ L h news) {x y : Addr × Obj} (hx : x ∈ news) (hy : y ∈ news) (hc : x.2.cls ≠ y.2.cls) : x.1 ≠ y.1 := fun e => by
  have h1 := (N x hx).1
  have h2 := (N y hy).1
  rw [e, h2] at h1
  exact hc (congrArg Obj.cls (Option.some.inj h1)).symm
theorem gm_led {h₀ h : Heap} {L S dx sf : Addr} {od os : Obj} {acc : Array Value} {c : Nat} {rest mt news : News0} (N : News h₀ L h ((S, listOf acc c) :: rest)) (hd : (dx, od) ∈ rest) (hs : (sf, os) ∈ rest) (hm : ∀ x ∈ mt, x ∈ rest) (hn : ∀ p ∈ news, p ∈ rest) :
    News h₀ L h ((S, listOf acc.toList.toArray c) :: (dx, od) :: (sf, os) :: (mt ++ news)) := fun p hp => by
  rcases List.mem_cons.mp hp with rfl | hp
  · rw [Array.toArray_toList]; exact N _ (.head _)
  rcases List.mem_cons.mp hp with rfl | hp
  · exact N _ (.tail _ hd)
  rcases List.mem_cons.mp hp with rfl | hp
  · exact N _ (.tail _ hs)
  rcases List.mem_append.mp hp with hp | hp
  · exact N _ (.tail _ (hm p hp))
  · exact N _ (.tail _ (hn p hp))
theorem rot3 {h₀ h : Heap} {L : Addr} {a b c : Addr × Obj} {r : News0} (N : News h₀ L h (a :: b :: c :: r)) : News h₀ L h (c :: a :: b :: r) := fun p hp => N p (by
  rcases List.mem_cons.mp hp with rfl | hp
  · exact .tail _ (.tail _ (.head _))
  rcases List.mem_cons.mp hp with rfl | hp
  · exact .head _
  rcases List.mem_cons.mp hp with rfl | hp
  · exact .tail _ (.head _)
  exact .tail _ (.tail _ (.tail _ hp)))
theorem QdV.mono {news news' : News0} {v : Value} {b : Quad} (h : QdV news v b) (hs : ∀ p ∈ news, p ∈ news') : QdV news' v b := h.imp fun _ y => y.imp fun _ y => y.imp fun _ y => y.imp fun _ y => y.imp fun _ y => y.imp fun _ y => ⟨y.1, hs _ y.2⟩
theorem QdAll.mono {news news' : News0} (hs : ∀ p ∈ news, p ∈ news') {vs : List Value} {bs : List Quad} (h : QdAll news vs bs) : QdAll news' vs bs := by
  induction h with
  | nil => exact .nil
  | snoc _ v ih => exact .snoc ih (v.mono hs)
theorem QdAll.length {news : News0} {vs : List Value} {bs : List Quad} (h : QdAll news vs bs) : vs.length = bs.length := by
  induction h with
  | nil => rfl
  | snoc _ v ih => simp [ih]
theorem QdAll.inv {news : News0} {us : List Value} {rs : List Quad} (h : QdAll news us rs) {qs : List Quad} {q : Quad} (e : rs = qs ++ [q]) : ∃ vs v, us = vs ++ [v] ∧ QdAll news vs qs ∧ QdV news v q := by
  cases h with
  | nil => exact absurd e (by simp)
  | @snoc v q' vs qs' h hv =>
    obtain ⟨e1, e2⟩ := List.append_inj' e rfl
    cases e2
    subst e1
    exact ⟨vs, v, rfl, h, hv⟩
theorem QRun.le {x y : Str} {k : Nat} {qs : List Quad} {outs : List Trip} (h : QRun x y k qs outs) : qs.length ≤ k := by
  induction h with
  | nil => exact Nat.le_refl _
  | skip _ _ ih => simp; exact dn20 0x3ed81036040 (by k_ne) ih
  | take _ _ ih => simp at ih ⊢; exact dn40 0x3ed830360efbc2040 (by k_ne) ih
theorem tl_cons {prog : Program} {w : World} {A : Around} {E : Value → Shared → Prop} {s : Shared} {h₀ : Heap} {L a : Addr} {news : News0} {vs : List Value} {v : Value} {n : Nat} {Q : Bool → Shared → Prop} (N : News h₀ L s.heap news) (hm : (a, listOf (vs ++ [v]).toArray n) ∈ news) (hz : vs.length ≤ 1000)
    (h : Q true { s with toks := s.toks + 1 + 1 }) : wpAny (model prog w) A (truthy (.ref a)) Q E s :=
  wpAny_truthy_list ⟨_, (N _ hm).1, rfl, _, rfl⟩ (by simp; exact dn10 0xfba008000000000000000b6f3740363e8b00 (by k_ne) hz) (by
    have e : (!(vs ++ [v]).toArray.isEmpty) = true := by simp
    rw [e]
    exact h)
theorem tl_nil {prog : Program} {w : World} {A : Around} {E : Value → Shared → Prop} {s : Shared} {h₀ : Heap} {L a : Addr} {news : News0} {n : Nat} {Q : Bool → Shared → Prop} (N : News h₀ L s.heap news) (hm : (a, listOf ([] : List Value).toArray n) ∈ news)
    (h : Q false { s with toks := s.toks + 1 + 1 }) : wpAny (model prog w) A (truthy (.ref a)) Q E s :=
  wpAny_truthy_list ⟨_, (N _ hm).1, rfl, _, rfl⟩ (by simp) h
theorem B2J.mono {rest rest' : News0} {kvs : List (Str × Value)} {pre : List Nat} (h : B2J [] rest kvs pre) (hs : ∀ p ∈ rest, p ∈ rest') : B2J [] rest' kvs pre :=
  ⟨h.no, fun c hc => (h.yes c hc).imp fun _ y => y.imp fun _ y => y.imp fun _ y => ⟨y.1, hs _ y.2.1, y.2.2⟩, h.inj⟩
theorem kw_fr {h₀ h : Heap} {L : Addr} {f m₀ : Str → Option Value} {stored : List Str} (F : Fr h₀ L h f) (hr : ∀ z, stored.contains z = false → f z = m₀ z) : Fr h₀ L h (fun y => kstB (fun z => if stored.contains z = true then f z else m₀ z) [] y) := by
  have e : (fun y => kstB (fun z => if stored.contains z = true then f z else m₀ z) [] y) = f := by
    funext z
    show (if stored.contains z = true then f z else m₀ z) = f z
    by_cases hz : stored.contains z = true
    · rw [if_pos hz]
    · rw [if_neg hz, hr z (by simpa using hz)]
  rw [e]
  exact F
theorem led_rot {h₀ h : Heap} {L : Addr} (l1 l2 : News0) {r : News0} (N : News h₀ L h (l1 ++ (l2 ++ r))) : News h₀ L h (l2 ++ (l1 ++ r)) := fun p hp => N p (by
  rcases List.mem_append.mp hp with hp | hp
  · exact List.mem_append_right _ (List.mem_append_left _ hp)
  rcases List.mem_append.mp hp with hp | hp
  · exact List.mem_append_left _ hp
  exact List.mem_append_right _ (List.mem_append_right _ hp))
theorem QRun.pop {x y : Str} {k : Nat} {st : List Quad} {outs : List Trip} (h : QRun x y (k + 1) st outs) : ∃ qs q i j n, st = qs ++ [q] ∧ Flm x y q i j n ∧ qs.length ≤ k ∧ ((n = 0 ∧ QRun x y k qs outs) ∨ (n ≠ 0 ∧ ∃ os, outs = ((i : Int), (j : Int), (n : Int)) :: os ∧ QRun x y k (qs ++ pushL q i j ++ pushR q i j n) os)) := by
  cases h with
  | @skip _ qs q i j _ hf hr => exact ⟨qs, q, i, j, 0, rfl, hf, hr.le, .inl ⟨rfl, hr⟩⟩
  | @take _ qs q i j n os hf hr => exact ⟨qs, q, i, j, n + 1, rfl, hf, by have := hr.le; rw [List.length_append, List.length_append] at this; exact dn40 0x3ed830360ef0af040 (by k_ne) this, .inr ⟨Nat.succ_ne_zero n, os, rfl, hr⟩⟩
structure Gm (news rest : News0) (qa mb dx : Addr) (qv : List Value) (stk : List Quad) (mv : List Value) (fnd : List Trip) : Prop where
  q : QdAll rest qv stk
  m : MtAll rest mv fnd
  s : ∀ p ∈ news, p ∈ rest
  nq : ∀ p ∈ rest, p.1 ≠ qa
  nm : ∀ p ∈ rest, p.1 ≠ mb
  nd : ∀ p ∈ rest, p.1 ≠ dx
theorem Gm.more {news rest : News0} {qa mb dx : Addr} {qv : List Value} {stk : List Quad} {mv : List Value} {fnd : List Trip} (G : Gm news rest qa mb dx qv stk mv fnd) {D : Addr} {o : Obj} (h1 : D ≠ qa) (h2 : D ≠ mb) (h3 : D ≠ dx) : Gm news ((D, o) :: rest) qa mb dx qv stk mv fnd :=
  ⟨G.q.mono fun _ h => .tail _ h, G.m.mono fun _ h => .tail _ h, fun p h => .tail _ (G.s p h), fall_cons h1 G.nq, fall_cons h2 G.nm, fall_cons h3 G.nd⟩
theorem Gm.push {news rest : News0} {qa mb dx : Addr} {qv : List Value} {stk : List Quad} {mv : List Value} {fnd : List Trip} (G : Gm news rest qa mb dx qv stk mv fnd) {D : Addr} {n : Nat} {a b c d : Int} {ta tb tc td : Tok} (q : Quad) (h : a = (q.1 : Nat) ∧ b = (q.2.1 : Nat) ∧ c = (q.2.2.1 : Nat) ∧ d = (q.2.2.2 : Nat)) (h1 : D ≠ qa) (h2 : D ≠ mb) (h3 : D ≠ dx) :
    Gm news ((D, tupO [.int a ta, .int b tb, .int c tc, .int d td] n) :: rest) qa mb dx (qv ++ [.ref D]) (stk ++ [q]) mv fnd :=
  let G' := G.more (o := tupO [.int a ta, .int b tb, .int c tc, .int d td] n) h1 h2 h3
  ⟨G'.q.snoc (quad_mk h.1 h.2.1 h.2.2.1 h.2.2.2 (.head _)), G'.m, G'.s, G'.nq, G'.nm, G'.nd⟩
theorem Gm.found {news rest : News0} {qa mb dx : Addr} {qv : List Value} {stk : List Quad} {mv : List Value} {fnd : List Trip} (G : Gm news rest qa mb dx qv stk mv fnd) {r dm : Addr} {o : Obj} {i j k : Int} {t1 t2 t3 : Tok} (h1 : r ≠ qa) (h2 : r ≠ mb) (h3 : r ≠ dx) (g1 : dm ≠ qa) (g2 : dm ≠ mb) (g3 : dm ≠ dx) :
    Gm news ((r, matchV dm [.int i t1, .int j t2, .int k t3]) :: (dm, o) :: rest) qa mb dx qv stk (mv ++ [.ref r]) (fnd ++ [(i, j, k)]) :=
  let G' := (G.more (o := o) g1 g2 g3).more (o := matchV dm [.int i t1, .int j t2, .int k t3]) h1 h2 h3
  ⟨G'.q, G'.m.snoc (b := (i, j, k)) ⟨r, dm, t1, t2, t3, rfl, .head _⟩, G'.s, G'.nq, G'.nm, G'.nd⟩
theorem Gm.pop {news rest : News0} {qa mb dx : Addr} {us : List Value} {qs : List Quad} {q : Quad} {mv : List Value} {fnd : List Trip} (G : Gm news rest qa mb dx us (qs ++ [q]) mv fnd) : ∃ vs t nt ta tb tc td, us = vs ++ [.ref t] ∧ (t, tupO [.int (q.1 : Nat) ta, .int (q.2.1 : Nat) tb, .int (q.2.2.1 : Nat) tc, .int (q.2.2.2 : Nat) td] nt) ∈ rest ∧ Gm news rest qa mb dx vs qs mv fnd := by
  obtain ⟨vs, v, rfl, hQ, t, nt, ta, tb, tc, td, rfl, hmt⟩ := G.q.inv rfl
  exact ⟨vs, t, nt, ta, tb, tc, td, rfl, hmt, hQ, G.m, G.s, G.nq, G.nm, G.nd⟩
theorem out_eq {fnd outs bs os : List Trip} {t : Trip} (h : fnd ++ outs = bs) (e : outs = t :: os) : (fnd ++ [t]) ++ os = bs := by
  rw [List.append_assoc, List.singleton_append, ← e]; exact h
theorem run_yes {x y : Str} {k : Nat} {qs s1 : List Quad} {q : Quad} {i j n : Nat} {os : List Trip} (hr : QRun x y k (qs ++ pushL q i j ++ pushR q i j n) os) (e : s1 = qs ++ pushL q i j) (hp : i + n < q.2.1 ∧ j + n < q.2.2.2) : QRun x y k (s1 ++ [(i + n, q.2.1, j + n, q.2.2.2)]) os := by
  rw [← e, pushR, if_pos hp] at hr; exact hr
theorem run_no {x y : Str} {k : Nat} {qs s1 : List Quad} {q : Quad} {i j n : Nat} {os : List Trip} (hr : QRun x y k (qs ++ pushL q i j ++ pushR q i j n) os) (e : s1 = qs ++ pushL q i j) (hp : ¬ (i + n < q.2.1 ∧ j + n < q.2.2.2)) : QRun x y k s1 os := by
  rw [← e, pushR, if_neg hp, List.append_nil] at hr; exact hr
theorem ledDup {h₀ h : Heap} {L : Addr} {a b c d e f : Addr × Obj} {r : News0} (N : News h₀ L h (a :: b :: c :: d :: e :: f :: r)) : News h₀ L h (c :: d :: e :: f :: a :: b :: c :: d :: e :: f :: r) := fun p hp => by
  rcases List.mem_cons.mp hp with rfl | hp
  · exact N _ (.tail _ (.tail _ (.head _)))
  rcases List.mem_cons.mp hp with rfl | hp
  · exact N _ (.tail _ (.tail _ (.tail _ (.head _))))
  rcases List.mem_cons.mp hp with rfl | hp
  · exact N _ (.tail _ (.tail _ (.tail _ (.tail _ (.head _)))))
  rcases List.mem_cons.mp hp with rfl | hp
  · exact N _ (.tail _ (.tail _ (.tail _ (.tail _ (.tail _ (.head _))))))
  exact N p hp
noncomputable def KwEnd {σ : Type} (Led : σ → News0) (ps : σ → List (Str × Value)) (stored : List Str) (m₀ : Str → Option Value) (P : σ → Prop) (h₀ : Heap) (L : Addr) (s₁ : Shared) (f : Flow) (s' : Shared) : Prop :=
  f = .next ∧ ∃ (c : σ) (u : Str → Option Value) (h : Heap) (tk : Nat), s' = { s₁ with heap := h, toks := tk } ∧ P c ∧ Fr h₀ L h (fun y => kstB (fun z => if stored.contains z then u z else m₀ z) (ps c) y) ∧ News h₀ L h (Led c)
theorem kw_loop {σ : Type} {prog : Program} {w : World} {A : Around} {E : Value → Shared → Prop} {s : Shared} {env : Env} {test : PySem.Expr} {body : List Stmt} {pos : Pos} {Q : Flow → Shared → Prop} {h₀ : Heap} {L : Addr} {m₀ : Str → Option Value}
    (Led : σ → News0) (ps : σ → List (Str × Value)) (stored : List Str) (P : Nat → σ → Prop) (c₀ : σ) (k : Nat) (hE : PassesOwn (model prog w) A env E)
    (F : Fr h₀ L s.heap m₀) (N : News h₀ L s.heap (Led c₀)) (hk : ∀ p ∈ ps c₀, m₀ p.1 = some p.2) (hp : P k c₀)
    (turn : ∀ k (c : σ) (u : Str → Option Value) h tk, P (k + 1) c → Fr h₀ L h (fun y => kstB (fun z => if stored.contains z then u z else m₀ z) (ps c) y) → News h₀ L h (Led c) →
      ∀ R : Flow → Shared → Prop, (∀ f s', KwEnd Led ps stored m₀ (P k) h₀ L s f s' → R f s') → wpAny (model prog w) A (isTrue test env (eval test env)) (fun b s₂ => b = true ∧ wpAny (model prog w) A (execs body env) R E s₂) E { s with heap := h, toks := tk })
    (done : ∀ (c : σ) (u : Str → Option Value) h tk, P 0 c → Fr h₀ L h (fun y => kstB (fun z => if stored.contains z then u z else m₀ z) (ps c) y) → News h₀ L h (Led c) →
      wpAny (model prog w) A (isTrue test env (eval test env)) (fun b s₂ => b = false ∧ Q .next s₂) E { s with heap := h, toks := tk }) :
    wpAny (model prog w) A (exec (.While test body [] pos) env) Q E s := by
  refine whl_start (k + 1) ?_
  have key : ∀ k (c : σ) (u : Str → Option Value) h tk, P k c → Fr h₀ L h (fun y => kstB (fun z => if stored.contains z then u z else m₀ z) (ps c) y) → News h₀ L h (Led c) → WhlRest prog w A E env test body [] Q (k + 1) { s with heap := h, toks := tk } := by
    intro k
    induction k with
    | zero =>
      intro c u h tk hp F N
      refine whl_turn hE (wpAny_mono (done c u h tk hp F N) ?_ fun _ _ e => e)
      rintro b s₂ ⟨rfl, hq⟩
      exact WhlIf.no rfl (wpAny_pure hq)
    | succ k ih =>
      intro c u h tk hp F N
      refine whl_turn hE (wpAny_mono (turn k c u h tk hp F N _ fun _ _ q => q) ?_ fun _ _ e => e)
      rintro b s₂ ⟨rfl, hq⟩
      refine WhlIf.yes rfl (wpAny_mono hq ?_ fun _ _ e => e)
      rintro f s₃ ⟨rfl, c', u', h', tk', rfl, hp', F', N'⟩
      exact ih c' u' h' tk' hp' F' N'
  refine key k c₀ m₀ s.heap s.toks hp ?_ N
  have e : (fun y => kstB (fun z => if stored.contains z then m₀ z else m₀ z) (ps c₀) y) = m₀ := by
    funext z
    simp only [ite_self]
    exact kstB_eq hk fun _ => rfl
  rw [e]
  exact F
theorem nm_cons17 {P : Str × Value → Prop} {a : Str × Value} {l : List (Str × Value)} (h : P a) (t : ∀ p ∈ l, P p) : ∀ p ∈ a :: l, P p := fun p hp => by
  rcases List.mem_cons.mp hp with e | hp
  · rw [e]; exact h
  · exact t p hp
theorem newsTl {h₀ h : Heap} {L : Addr} {x : Addr × Obj} {l : News0} (N : News h₀ L h (x :: l)) : News h₀ L h l := fun p hp => N p (.tail _ hp)
theorem sub_rotA {d i a b c e f g h : Addr × Obj} {r : News0} : ∀ p ∈ a :: b :: c :: e :: f :: g :: h :: d :: r, p ∈ d :: i :: a :: b :: c :: e :: f :: g :: h :: r := fun p hp => by
  simp only [List.mem_cons] at hp ⊢
  rcases hp with hp | hp | hp | hp | hp | hp | hp | hp | hp <;> simp [hp]
theorem wordsC16_3 : True := by
  k_with "truthy ref" => (k_here; first | (k_dflt (refine' tl_cons ?tlN ?tlM ?tlZ ?_; (case tlN => k_asm); (case tlM => k_mem); (case tlZ => with_reducible assumption))) | (k_dflt (refine' tl_nil ?tlN ?tlM ?_; (case tlN => k_asm); (case tlM => k_mem))))
  k_with "call builtin:list.pop" => (k_here; (with_reducible show wpAny _ _ (call (Value.builtin _) [Value.ref _]) _ _ _); k_dflt (refine' kl_pop ?F ?N (kpa_last _ _) ?U ?z ?_; (case F => k_asm); (case N => k_asm); (case U => k_upd); (case z => (rw [PySem.sizeLine_eq]; show (_ ++ [_]).length ≤ _; rw [List.length_append, List.length_singleton]; (first | lia | omega))); k_whole); intro _ _ _; (try k_sweep))
  k_with "assign Tuple" => (k_here; (with_reducible show wpAny _ _ (assign (Expr.Tuple _ _ _) _ (Value.ref _)) _ _ _); first | (k_dflt (refine' mt_unpack ?muF ?muX ?muN ?muM ?muH ?mu1 ?mu2 ?_; (case muF => k_asm); (case muX => k_asm); (case muN => k_asm); (case muM => first | k_mem | ((repeat (first | (with_reducible assumption) | (with_reducible refine List.mem_append_right _ ?_) | (with_reducible refine List.mem_cons_of_mem _ ?_))))); (case muH => exact rfl); (case mu1 => exact rfl); (case mu2 => exact rfl); k_whole); intro _ _ _; (try k_sweep)) | (k_dflt (refine' unpackN_ ?muF ?muN (isTup_of ?muN2 ?muM ?muC ?muD) ?mu1 ?mu2 ?mu3 ?_; (case muF => k_asm); (case muN => k_asm); (case muN2 => k_asm); (case muM => ((repeat (first | (with_reducible assumption) | (with_reducible refine List.mem_append_right _ ?_) | (with_reducible refine List.mem_cons_of_mem _ ?_))))); (case muC => exact rfl); (case muD => exact rfl); (case mu1 => exact rfl); (case mu2 => exact rfl); (case mu3 => exact rfl); k_whole); intro _ _ _; (try k_sweep)))
  k_with "k_steps" => (repeat' ((fail_if_success (with_reducible show InvEndN _ _ _ _ _ _ _)); (fail_if_success (with_reducible show InvEndG _ _ _ _ _ _)); (fail_if_success (with_reducible show UnrEndW _ _ _ _ _ _)); (fail_if_success (with_reducible show wpAny _ _ (pyIter _) _ _ _)); (fail_if_success (with_reducible show wpAny _ _ (exec (Stmt.While _ _ _ _) _) _ _ _)); (fail_if_success (with_reducible show wpAny _ _ (call (Value.ref 277) _) _ _ _)); (fail_if_success (with_reducible show wpAny _ _ (call (Value.builtin "list.sort") _) _ _ _)); (fail_if_success (with_reducible show wpAny _ _ (call (Value.type "map") _) _ _ _)); (fail_if_success (with_reducible show wpAny _ _ (call (Value.type "list") [Value.ref _]) _ _ _)); (fail_if_success (with_reducible show wpAny _ _ (exec (Stmt.For _ _ _ _ _) _) _ _ _)); (fail_if_success (with_reducible show KwEnd _ _ _ _ _ _ _ _ _ _)); (first | (k_unfold; (try dsimp only)) | (k_end; kc_close) | walk1 | (dsimp only; walk1) | (leave1; walk_say "STEP leave1"; (try dsimp only)) | fail "no step")))
  k_with "k_stepsI" => (repeat' ((fail_if_success (with_reducible show wpAny _ _ (execs (Stmt.If _ _ _ _ :: _) _) _ _ _)); (fail_if_success (with_reducible show InvEndN _ _ _ _ _ _ _)); (fail_if_success (with_reducible show InvEndG _ _ _ _ _ _)); (fail_if_success (with_reducible show UnrEndW _ _ _ _ _ _)); (fail_if_success (with_reducible show wpAny _ _ (pyIter _) _ _ _)); (fail_if_success (with_reducible show wpAny _ _ (exec (Stmt.While _ _ _ _) _) _ _ _)); (fail_if_success (with_reducible show wpAny _ _ (call (Value.ref 277) _) _ _ _)); (fail_if_success (with_reducible show wpAny _ _ (call (Value.builtin "list.sort") _) _ _ _)); (fail_if_success (with_reducible show wpAny _ _ (call (Value.type "map") _) _ _ _)); (fail_if_success (with_reducible show wpAny _ _ (call (Value.type "list") [Value.ref _]) _ _ _)); (fail_if_success (with_reducible show wpAny _ _ (exec (Stmt.For _ _ _ _ _) _) _ _ _)); (fail_if_success (with_reducible show KwEnd _ _ _ _ _ _ _ _ _ _)); (first | (k_unfold; (try dsimp only)) | (k_end; kc_close) | walk1 | (dsimp only; walk1) | (leave1; walk_say "STEP leave1"; (try dsimp only)) | fail "no step")))
  k_with "ite" => (first | with_reducible refine ite_tt ?_ | with_reducible refine ite_ff ?_ | (with_reducible refine ieq_yes ?_ ?_; (focus (first | lia | omega))) | (with_reducible refine ieq_no ?_ ?_; (focus (first | lia | omega))) | (with_reducible refine ine_yes ?_ ?_; (focus (first | lia | omega))) | (with_reducible refine ine_no ?_ ?_; (focus (first | lia | omega))) | (with_reducible refine idec_yes ?_ ?_; (focus (first | lia | omega))) | (with_reducible refine idec_no ?_ ?_; (focus (first | lia | omega))))
  k_with "call builtin:len" => (k_here; (with_reducible show wpAny _ _ (call (Value.builtin "len") [Value.str _ _]) _ _ _); k_dflt (refine P.len_str ?lnf ?_; (case lnf => (first | lia | omega))))
  k_with "k_all" => (with_reducible assumption)
  k_with "k_all" => (exact neOfLt (by assumption))
  k_with "spliced" => (k_here; (with_reducible show wpAny _ _ (spliced (backTo _ (starEach (_ :: _) _))) _ _ _); k_dflt (refine' args_pure (g := sg) (d := sd) (o := so) ?w8a ?w8F ?w8p ?_; (case w8a => exact rfl); (case w8F => k_asm); (case w8p => exact rfl); k_whole); (dsimp only [PVK, List.cons_append, List.nil_append]); intros)
  k_with "same" => (repeat (first | with_reducible exact sameE | ((with_reducible refine kstJ ?_ ?_ ?_); rfl; rfl) | ((with_reducible refine updJ ?_ ?_); rfl) | ((with_reducible refine upLJ ?_ ?_); rfl)))
  k_with "storeName" => (k_here; k_dflt (first | (refine' storeJ (g := sg) (d := sd) (o := so) ?F ?N ?_ ?a ?b; (case F => k_asm); (case N => k_asm); (case a => rfl); (case b => rfl); k_whole; intro _ _ _ _ _ _) | (refine' storeV (g := sg) (d := sd) (o := so) ?F ?N ?_ ?a ?b; (case F => k_asm); (case N => k_asm); (case a => rfl); (case b => rfl); k_whole; intro _ _ _ _)); (try k_sweep))
  k_with "execs cons" => (k_here; (with_reducible show wpAny _ _ (execs (Stmt.If _ _ _ _ :: _) _) _ _ _); k_dflt (first | (refine' if_yes (g := sg) (d := sd) (o := so) ?w9F ?w9p ?w9P ?_ ?w9a ?w9b; (case w9F => k_asm); (case w9p => exact rfl); (case w9P => first | (first | lia | omega) | (first | exact rfl | assumption | exact ⟨by first | (first | lia | omega) | assumption, by first | exact rfl | assumption | (first | lia | omega)⟩)); (case w9a => exact rfl); (case w9b => first | dsimp only [List.cons_append, List.nil_append] | exact rfl); k_whole; intro _) | (refine' if_no (g := sg) (d := sd) (o := so) ?w9F ?w9p ?w9P ?_ ?w9a ?w9b; (case w9F => k_asm); (case w9p => exact rfl); (case w9P => first | (first | lia | omega) | (first | exact rfl | assumption | exact Or.inl (by first | (first | lia | omega) | assumption | exact rfl) | exact Or.inr (by first | (first | lia | omega) | assumption | exact rfl))); (case w9a => exact rfl); (case w9b => first | dsimp only [List.cons_append, List.nil_append] | exact rfl); k_whole; intro _)))
  k_with "execs cons" => (k_here; (with_reducible show wpAny _ _ (execs (Stmt.Assign [Expr.Name _ _] _ _ :: _) _) _ _ _); k_dflt (refine' as_int (g := sg) (d := sd) (o := so) ?w9F ?w9N ?w9p ?_ ?w9a ?w9b ?w9c; (case w9F => k_asm); (case w9N => k_asm); (case w9p => exact rfl); (case w9a => exact rfl); (case w9b => exact rfl); (case w9c => exact rfl); k_whole; intro _ _ _ _ _ _; (try k_sweep)))
  k_with "execs cons" => (k_here; (with_reducible show wpAny _ _ (execs (Stmt.Expr (Expr.Call (Expr.Attribute (Expr.Name _ _) _ _) [_] [] _) _ :: _) _) _ _ _); first | ((with_reducible show wpAny _ _ (execs (Stmt.Expr (Expr.Call _ [Expr.Tuple _ _ _] _ _) _ :: _) _) _ _ _); k_dflt (refine' app_tup (g := sg) (d := sd) (o := so) ?w5F ?w5N ?w5m ?w5q ?w5p ?w5U ?w5z ?w5v ?_ ?w5k ?w5x ?w5e ?w5i ?w5s; (case w5q => exact rfl); (case w5F => k_asm); (case w5N => k_asm); (case w5m => exact rfl); (case w5p => exact rfl); (case w5U => (intro _; k_upd)); (case w5z => first | exact Nat.le_of_ble_eq_true rfl | lia | omega | (simp only [List.length_append, List.length_cons, List.length_nil]; first | lia | omega)); (case w5v => exact Nat.le_of_ble_eq_true rfl); (case w5k => exact rfl); (case w5x => exact rfl); (case w5e => exact rfl); (case w5i => exact rfl); (case w5s => exact rfl); k_whole; intro _ _ _ _ _ w5n w5l; (try dsimp only [valw] at w5n); (try k_lt w5l))) | ((fail_if_success (with_reducible show wpAny _ _ (execs (Stmt.Expr (Expr.Call _ [Expr.Tuple _ _ _] _ _) _ :: _) _) _ _ _)); k_dflt (first | (refine' app_v (g := sg) (d := sd) (o := so) ?w5F ?w5N ?w5m ?w5q ?w5p ?w5U ?w5z ?_ ?w5k ?w5x ?w5t ?w5e ?w5i ?w5s; (case w5q => exact rfl); (case w5F => k_asm); (case w5N => k_asm); (case w5m => exact rfl); (case w5p => exact rfl); (case w5U => k_upd); (case w5z => first | exact Nat.le_of_ble_eq_true rfl | lia | omega | (simp only [List.length_append, List.length_cons, List.length_nil]; first | lia | omega)); (case w5k => exact rfl); (case w5x => exact rfl); (case w5t => exact rfl); (case w5e => exact rfl); (case w5i => exact rfl); (case w5s => exact rfl); k_whole; intro _ _ _ w5n; (try dsimp only at w5n)) | (refine' app_i (g := sg) (d := sd) (o := so) ?w5F ?w5N ?w5m ?w5q ?w5p ?w5U ?w5z ?_ ?w5k ?w5x ?w5t ?w5e ?w5i ?w5s; (case w5q => exact rfl); (case w5F => k_asm); (case w5N => k_asm); (case w5m => exact rfl); (case w5p => exact rfl); (case w5U => (intro _; k_upd)); (case w5z => first | exact Nat.le_of_ble_eq_true rfl | lia | omega | (simp only [List.length_append, List.length_cons, List.length_nil]; first | lia | omega)); (case w5k => exact rfl); (case w5x => exact rfl); (case w5t => exact rfl); (case w5e => exact rfl); (case w5i => exact rfl); (case w5s => exact rfl); k_whole; intro _ _ _ _ w5n; (try dsimp only at w5n)))); (try k_sweep))
  k_with "assignInOrder" => (k_here; k_dflt (first | (refine' asg_names (g := sg) (d := sd) (o := so) ?w6F ?w6N ?w6p ?w6l ?_ ?w6a ?w6k; (case w6F => k_asm); (case w6N => k_asm); (case w6p => exact rfl); (case w6l => exact rfl); (case w6a => exact rfl); (case w6k => exact rfl); k_whole; intro _ _ _ _ _) | (refine' asg_bind (g := sg) (d := sd) (o := so) ?w6k ?w6F ?w6N ?w6l ?_ ?w6a; (case w6F => k_asm); (case w6N => k_asm); (case w6l => exact rfl); (case w6a => exact rfl); (case w6k => exact rfl); k_whole; intro _ _ _ _ _)); (try k_sweep))
  trivial
section
variable {w : World} {base : Heap} {news : News0}
set_option maxRecDepth 100000
set_option maxHeartbeats 8000000
theorem c_gmb (sf dx db sj : Addr) (ob : Obj) (kvs : List (Str × Value)) (x y : Str) (tx ty : Tok) (t1 t2 t3 t4 t5 t6 t7 t8 t9 t10 : Tok) (l1 : Bool) (vo vp : Value)
    (hsf : @LT.lt Nat _ dx sf) (hdb : @LT.lt Nat _ sf db) (hkv : ob.IsDictOf (PySem.strKind PG w) kvs) (hB : B2J [] news kvs y.cps.toList) (hx : x.length ≤ 64) (hy : y.length ≤ 64)
    (K : Nat) (bs cs : List Trip) (hK : K ≤ 1000) (hndx : ∀ p ∈ news, p.1 ≠ dx) (hrun : QRun x y K [(0, x.length, 0, y.length)] bs) (hlen : bs.length ≤ 60) (hperm : cs.Perm bs) (hsrt : cs.Pairwise fun a b => a.1 < b.1) (ms : List Trip) (hms : mgEnd (cs.foldl mgStep ([], 0, 0, 0)) x.length y.length = ms) :
    Con w 8 base ((sj, setO l1) :: (db, ob) :: (sf, instObj 323 dx) :: (dx, dictOf [en w "isjunk" t1 .none, en w "a" t2 (.str x tx), en w "b" t3 (.str y ty), en w "autojunk" t4 (.bool true), en w "matching_blocks" t5 .none, en w "opcodes" t6 vo, en w "fullbcount" t7 .none, en w "b2j" t8 (.ref db), en w "bjunk" t9 (.ref sj), en w "bpopular" t10 vp] 10) :: news) (call (.ref 284) [.ref sf]) (fun G => ∀ (S : Addr) (vs : List Value) (c : Nat) (mt : News0), @LT.lt Nat _ dx S → @LT.lt Nat _ sf S → (∀ p ∈ news, p.1 < S) → MtAll mt vs ms → (∀ x ∈ mt, x.2.cls = .ref 216) →
      G (.ref S) ((S, listOf vs.toArray c) :: (dx, dictOf [en w "isjunk" t1 .none, en w "a" t2 (.str x tx), en w "b" t3 (.str y ty), en w "autojunk" t4 (.bool true), en w "matching_blocks" t5 (.ref S), en w "opcodes" t6 vo, en w "fullbcount" t7 .none, en w "b2j" t8 (.ref db), en w "bjunk" t9 (.ref sj), en w "bpopular" t10 vp] 10) :: (sf, instObj 323 dx) :: (mt ++ news))) := by
  refine Con.mk2 ?_
  intro p loose mean mg mb dp un gd cn cns cg cc cm a ccd cl outer A₀ h₀ L m sh sg sd sk so Q E B F X N T hd hu hret
  refine (fun (k : let od := dictOf [en w "isjunk" t1 .none, en w "a" t2 (.str x tx), en w "b" t3 (.str y ty), en w "autojunk" t4 (.bool true), en w "matching_blocks" t5 .none, en w "opcodes" t6 vo, en w "fullbcount" t7 .none, en w "b2j" t8 (.ref db), en w "bjunk" t9 (.ref sj), en w "bpopular" t10 vp] 10; News h₀ L sh ((sj, setO l1) :: (db, ob) :: (sf, instObj 323 dx) :: (dx, od) :: news) → _) => k N) ?_
  clear N
  intro od N
  refine wpAny_call ?_
  k_dflt k_enter
  have hMk := kstMark
  (rename Fr _ _ _ _ => lFe); refine fr_let lFe ?_; clear lFe; intro me lFe
  refine let_A ?_
  intro A9
  k_steps
  rename_i tka tl h1 lttl h2 h3 _ _ _ h4 _ _ _ qt h5 ltqt qa h6 ltqa h7 _ tkc mb h8 ltmb h9 _ lF' lN'
  have a0 := allLt_mem _ ltqt.2.2.2.2.2
  have a1 := allLt_mem _ ltqa.2.2.2.2.2.2
  have a2 := allLt_mem _ ltmb.2.2.2.2.2.2.2
  obtain ⟨ta, tb, tc, td, hqt⟩ : ∃ ta tb tc td : Tok, h9.get? qt = some (tupO [.int ((0 : Nat) : Int) ta, .int (x.length : Nat) tb, .int ((0 : Nat) : Int) tc, .int (y.length : Nat) td] 0) := ⟨_, _, _, _, (lN' (qt, _) (.tail _ (.tail _ (.head _)))).1⟩
  have hqt2 := (lN' (qt, _) (.tail _ (.tail _ (.head _)))).2
  k_dflt (with_unfolding_all refine' kw_loop (σ := (List Value × Nat) × (List Value × Nat) × News0 × List Quad × List Trip) (fun c => (qa, listOf c.1.1.toArray c.1.2) :: (mb, listOf c.2.1.1.toArray c.2.1.2) :: (sj, setO l1) :: (db, ob) :: (sf, instObj 323 dx) :: (dx, od) :: c.2.2.1) (fun _ => []) ["alo", "ahi", "blo", "bhi", "i", "j", "k", "x"] (fun k c => k ≤ K ∧ (∃ outs, QRun x y k c.2.2.2.1 outs ∧ c.2.2.2.2 ++ outs = bs) ∧ Gm news c.2.2.1 qa mb dx c.1.1 c.2.2.2.1 c.2.1.1 c.2.2.2.2) (([.ref qt], 0), ([], 0), (qt, tupO [.int ((0 : Nat) : Int) ta, .int (x.length : Nat) tb, .int ((0 : Nat) : Int) tc, .int (y.length : Nat) td] 0) :: news, [(0, x.length, 0, y.length)], []) K ?hE lF' ?led (fun p hp => nomatch hp) ?P0 ?turn ?done)
  case hE => first | passes_own | with_unfolding_all passes_own
  case led =>
    refine fall_cons (lN' _ (.tail _ (.head _))) ?_
    refine fall_cons (lN' _ (.head _)) ?_
    refine fall_cons (lN' _ (.tail _ (.tail _ (.tail _ (.tail _ (.head _)))))) ?_
    refine fall_cons (lN' _ (.tail _ (.tail _ (.tail _ (.tail _ (.tail _ (.head _))))))) ?_
    refine fall_cons (lN' _ (.tail _ (.tail _ (.tail _ (.tail _ (.tail _ (.tail _ (.head _)))))))) ?_
    refine fall_cons (lN' _ (.tail _ (.tail _ (.tail _ (.tail _ (.tail _ (.tail _ (.tail _ (.head _))))))))) ?_
    refine fall_cons ⟨hqt, hqt2⟩ ?_
    exact fun p hp => lN' p (.tail _ (.tail _ (.tail _ (.tail _ (.tail _ (.tail _ (.tail _ (.tail _ hp))))))))
  case P0 =>
    have ne1 : @LT.lt Nat _ qt qa := ltqa.1
    have ne2 : @LT.lt Nat _ qt mb := ltmb.2.1
    have ne3 : @LT.lt Nat _ dx qt := ltqt.2.2.2.2.1
    exact ⟨Nat.le_refl _, ⟨bs, hrun, rfl⟩, .snoc .nil ⟨qt, 0, _, _, _, _, rfl, .head _⟩, .nil, fun p hp => .tail _ hp, fall_cons (Nat.ne_of_lt ne1) fun p hp => Nat.ne_of_lt (a1 p hp), fall_cons (Nat.ne_of_lt ne2) fun p hp => Nat.ne_of_lt (a2 p hp), fall_cons (Nat.ne_of_gt ne3) hndx⟩
  case turn =>
    intro k9 c8
    refine match c8 with | ⟨⟨qv, nq⟩, ⟨mv, nm⟩, rest, stk, fnd⟩ => ?_
    intro u9 h9 tk9 hP18
    dsimp only at hP18 ⊢
    refine opqG fun G8 hG8 => ?_
    obtain ⟨hk9, ⟨outs, hrun9, hout9⟩, hG0⟩ := hP18
    obtain ⟨qs, q, i, j, n, rfl, hflm, hqs, hr⟩ := hrun9.pop
    obtain ⟨vs, t, nt, ta, tb, tc, td, rfl, hmt, hG⟩ := hG0.pop
    refine hG8 ?_
    clear hG8 G8 hG0 hrun9
    clear lF' lN'
    intro F9 N9 RR hRR
    refine fr_let F9 ?_
    clear F9
    intro mf9 F9
    have hnq9 := hG.nq
    have hnm9 := hG.nm
    have hnd9 := hG.nd
    have hvl : vs.length ≤ 1000 := Nat.le_trans (Nat.le_of_eq hG.q.length) (Nat.le_trans hqs (Nat.le_of_succ_le (Nat.le_trans hk9 hK)))
    k_steps
    (k_here; k_dflt (refine' Con.use (c_flm (news := (qa, listOf vs.toArray (nq + 1)) :: (mb, listOf mv.toArray nm) :: (sj, setO l1) :: (db, ob) :: (sf, instObj 323 dx) :: (dx, od) :: rest) sf dx db sj ob kvs x y tx ty t1 t2 t3 t4 t5 t6 t7 t8 t9 t10 l1 .none vo vp q.1 q.2.1 q.2.2.1 q.2.2.2 _ _ _ _ hsf hdb hkv (hB.mono fun p hp => .tail _ (.tail _ (.tail _ (.tail _ (.tail _ (.tail _ (hG.s p hp))))))) hx hy hflm.h1 hflm.h2 hflm.h3 hflm.h4 i j n hflm.hS hflm.g1 hflm.g2 hflm.g3 hflm.g4 hflm.hL hflm.hR) ?k1 ?k2 ?k3 ?k4 ?k5 ?k6 ?k7 ?k8 ?_; (case k1 => k_asm); (case k2 => k_asm); (case k3 => k_asm); (case k4 => exact ledDup (by k_asm)); (case k5 => k_asm); (case k6 => exact rfl); (case k7 => ((try dsimp only [A9]); ktr_room)); (case k8 => ((try dsimp only [A9]); ktr_units)); k_whole); intro r' dm' t1' t2' t3' q1' q2' h' tk' F' N'; (have q3' := allLt_of q2'); (try simp only [AllLt] at q3'); (try k_sweep))
    k_extra "k_stepsI"
    refine hr.elim (fun ⟨hn0, hr⟩ => ?_) (fun ⟨hn0, os, hos, hr⟩ => ?_)
    · k_steps
      rename Fr _ _ _ _ => F7
      rename News _ _ _ _ => N7
      refine hRR _ _ ⟨rfl, ((vs, nq + 1), (mv, nm), rest, qs, fnd), _, _, _, rfl, ⟨Nat.le_of_succ_le hk9, ⟨outs, hr, hout9⟩, hG⟩, kw_fr F7 ?_, fun p hp => N7 p (.tail _ (.tail _ hp))⟩
      (refine sameS ?_; k_extra "same")
    walk1
    have hml : mv.length ≤ 64 := by
      have h1 := hG.m.length
      have h2 := congrArg List.length hout9
      rw [List.length_append] at h2
      clear hG hr hflm
      exact dn40 0x3efbed8102c07802f0c2e0207603cb00 (by k_ne) hlen h1 h2
    k_extra "k_stepsI"
    rename Fr _ _ _ _ => FA
    rename News _ _ _ _ => NA
    (try simp only [List.push_toArray] at NA)
    have hG1 := hG.found (o := emptyDict) (r := r') (dm := dm') (i := i) (j := j) (k := n) (t1 := t1') (t2 := t2') (t3 := t3') (by k_ne) (by k_ne) (by k_ne) (by k_ne) (by k_ne) (by k_ne)
    refine fr_let FA ?_
    clear FA
    intro mfA FA
    refine cutN 1 FA (fun c : ((List Value × Nat) × Nat) × News0 × List Quad => (qa, listOf c.1.1.1.toArray c.1.1.2) :: (mb, listOf (mv ++ [Value.ref r']).toArray c.1.2) :: (sj, setO l1) :: (db, ob) :: (sf, instObj 323 dx) :: (dx, od) :: c.2.1) (fun _ => mfA) (fun c => Gm news c.2.1 qa mb dx c.1.1.1 c.2.2 (mv ++ [Value.ref r']) (fnd ++ [((i : Int), (j : Int), (n : Int))]) ∧ c.2.2 = qs ++ pushL q i j) ?st1 ?st2
    case st1 =>
      dsimp only [List.take_succ_cons, List.take_zero]
      intro R hR _
      by_cases hp : q.1 < i ∧ q.2.2.1 < j
      · k_steps
        rename Fr _ _ _ _ => F5
        rename News _ _ _ _ => N5
        (try simp only [List.push_toArray] at N5)
        exact hR (((vs ++ [_], _), _), _, qs ++ [(q.1, i, q.2.2.1, j)]) _ _ F5 (led_rot [_, _, _] [_, _, _, _, _, _] N5) ⟨hG1.push (q.1, i, q.2.2.1, j) ⟨rfl, rfl, rfl, rfl⟩ (by k_ne) (by k_ne) (by k_ne), by rw [pushL, if_pos hp]⟩
      · k_steps
        rename Fr _ _ _ _ => F5
        rename News _ _ _ _ => N5
        exact hR (((vs, _), _), _, qs) _ _ F5 (led_rot [_, _] [_, _, _, _, _, _] N5) ⟨hG1, by rw [pushL, if_neg hp, List.append_nil]⟩
    case st2 =>
      intro c8
      refine match c8 with | ⟨⟨⟨qv1, nq1⟩, nm1⟩, rest1, stk1⟩ => ?_
      intro h1 tk1 F1 N1 hP18
      refine opqG fun G8 hG8 => ?_
      obtain ⟨hG2, hst⟩ := hP18
      refine hG8 ?_
      clear hG8 G8 FA NA hG hG1 hnq9 hnm9 hnd9 hvl
      dsimp only at F1 N1 hG2 hst
      show wpAny _ _ (execs (_ :: []) _) _ _ _
      have hnq9 := hG2.nq
      have hnm9 := hG2.nm
      have hnd9 := hG2.nd
      have hvl : qv1.length ≤ 1000 := by
        have h1 := hG2.q.length
        have h2 := hr.le
        rw [← hst, List.length_append] at h2
        clear hr hst hflm
        exact dn50 0x3efbefb63e8b02d81bc40f80c2d80bcd0763e8b00 (by k_ne) hK hk9 h1 h2
      by_cases hp : i + n < q.2.1 ∧ j + n < q.2.2.2
      · k_steps
        rename Fr _ _ _ _ => F7
        rename News _ _ _ _ => N7
        (try simp only [List.push_toArray] at N7)
        refine hRR _ _ ⟨rfl, ((_, _), (_, _), _, stk1 ++ [(i + n, q.2.1, j + n, q.2.2.2)], _), _, _, _, rfl, ⟨Nat.le_of_succ_le hk9, ⟨os, run_yes hr hst hp, out_eq hout9 hos⟩, hG2.push (i + n, q.2.1, j + n, q.2.2.2) ⟨?w1, rfl, ?w2, rfl⟩ (by k_ne) (by k_ne) (by k_ne)⟩, kw_fr F7 ?ff, led_rot [_] [_, _, _, _, _, _] N7⟩
        case w1 => exact (Int.natCast_add _ _).symm
        case w2 => exact (Int.natCast_add _ _).symm
        case ff => (refine sameS ?_; k_extra "same")
      · have hp2 : (q.2.1 : Int) ≤ (i : Int) + n ∨ (q.2.2.2 : Int) ≤ (j : Int) + n := by clear hflm hr hst hG2; exact dn50 0xfbde6fd01d03d04e6fd01d00d02ffcdc4bc10f70af040 (by k_ne) hp
        k_steps
        rename Fr _ _ _ _ => F7
        rename News _ _ _ _ => N7
        refine hRR _ _ ⟨rfl, ((_, _), (_, _), _, stk1, _), _, _, _, rfl, ⟨Nat.le_of_succ_le hk9, ⟨os, run_no hr hst hp, out_eq hout9 hos⟩, hG2⟩, kw_fr F7 ?ff, N7⟩
        (refine sameS ?_; k_extra "same")
  case done =>
    intro c8
    refine match c8 with | ⟨⟨qv, nq⟩, ⟨mv, nm⟩, rest, stk, fnd⟩ => ?_
    intro u9 h9 tk9 hP18 F9 N9
    refine opqG fun G8 hG8 => ?_
    obtain ⟨hk9, ⟨outs, hrun9, hout9⟩, ⟨hQ9, hM9, hsub9, hnq9, hnm9, hnd9⟩⟩ := hP18
    refine hG8 ?_
    clear hG8 G8
    clear lF' lN'
    dsimp only at hk9 hrun9 hout9 hQ9 hM9 hsub9 hnq9 hnm9 hnd9 F9 N9
    refine fr_let F9 ?_
    clear F9
    intro mf9 F9
    cases hrun9
    obtain rfl : qv = [] := List.eq_nil_of_length_eq_zero hQ9.length
    rw [List.append_nil] at hout9
    subst hout9
    k_steps
    show wpAny _ _ (call (Value.builtin "list.sort") [Value.ref mb]) _ _ _
    (k_dflt (refine' mt_lsort (R := rest) (bs := fnd) (cs := cs) (its := mv.toArray) ?lu ?lF ?lX ?lN ?lU ?lb ?lr (Nat.lt_of_le_of_lt hlen (by decide)) hperm hsrt ?_))
    (case lu => (dsimp only [A9]; ktr_units))
    (case lF => k_asm)
    (case lX => k_asm)
    (case lN => k_asm)
    (case lU => k_updF)
    (case lb => exact hM9)
    (case lr => exact fun p hp => .tail _ (.tail _ (.tail _ (.tail _ (.tail _ (.tail _ hp))))))
    intro vl c9 h8 hMs F8 N8
    clear N9 F9
    k_steps
    rename_i hA _ _ _ hB _ _ _ hC _ _ _ nl hD ltnl hE _ F7 N7
    have b1 := allLt_mem _ ltnl.2.2.2.2.2.2
    (k_here; (k_dflt (with_unfolding_all refine' For_turns F7 ?_; k_whole)))
    k_steps
    k_dflt (with_unfolding_all refine' kj_list (vs := vl) (lo := listOf vl.toArray c9) (σ := (List Value × Nat) × (Int × Tok) × (Int × Tok) × (Int × Tok) × List (Addr × Obj)) (fun c => (nl, listOf c.1.1.toArray c.1.2) :: (qa, listOf ([] : List Value).toArray nq) :: (mb, listOf vl.toArray c9) :: (sj, setO l1) :: (db, ob) :: (sf, instObj 323 dx) :: (dx, od) :: c.2.2.2.2) (fun c => [("i1", .int c.2.1.1 c.2.1.2), ("j1", .int c.2.2.1.1 c.2.2.1.2), ("k1", .int c.2.2.2.1.1 c.2.2.2.1.2)]) ["i2", "j2", "k2"] (fun i c => (∃ na, (cs.take i).foldl mgStep ([], 0, 0, 0) = (na, c.2.1.1, c.2.2.1.1, c.2.2.2.1.1) ∧ TpAll c.2.2.2.2 c.1.1 na ∧ na.length ≤ i) ∧ (∀ p ∈ rest, p ∈ c.2.2.2.2) ∧ (∀ p ∈ c.2.2.2.2, p.1 ≠ nl) ∧ (∀ p ∈ c.2.2.2.2, p.1 ≠ dx)) (([], _), (0, _), (0, _), (0, _), rest) (by rfl) (fun c => .tail _ (.tail _ (.head _))) (by rfl) (by rfl) F7 N7 ?ps0 ?p0 ?mturn ?mdone)
    case ps0 =>
      refine fall_cons (by rfl) ?_
      refine fall_cons (by rfl) ?_
      refine fall_cons (by rfl) ?_
      exact fun _ h => nomatch h
    case p0 => exact ⟨⟨[], rfl, .nil, Nat.le_refl _⟩, fun p hp => hp, fun p hp => Nat.ne_of_lt (b1 p hp), hnd9⟩
    case mturn =>
      intro I o1 c8
      refine match c8 with | ⟨⟨nv, nn⟩, ⟨i1, ti1⟩, ⟨j1, tj1⟩, ⟨k1, tk1⟩, rs⟩ => ?_
      intro i v u7 h7 tk7 hv hoff hP18 F6 N6
      refine opqG fun G8 hG8 => ?_
      obtain ⟨⟨na, hna, hTp, hnal⟩, hsb, hn1, hn2⟩ := hP18
      refine hG8 ?_
      clear hG8 G8
      clear F7 N7
      dsimp only at hna hTp hsb hn1 hn2 F6 N6 hoff
      refine fr_let F6 ?_
      clear F6
      intro mf6 F6
      refine opqG fun G8 hG8 => ?_
      obtain ⟨b, hb, r2, dm2, u1, u2, u3, rfl, hm2⟩ := hMs.get hv
      refine hG8 ?_
      clear hG8 G8
      have hm3 := hsb _ hm2
      have hI1 : @Ne Nat nl I := hoff _ (.head _)
      have hI2 : @Ne Nat qa I := hoff _ (.tail _ (.head _))
      have hI3 : @Ne Nat mb I := hoff _ (.tail _ (.tail _ (.head _)))
      have hI4 : @Ne Nat sj I := hoff _ (.tail _ (.tail _ (.tail _ (.head _))))
      have hI5 : @Ne Nat db I := hoff _ (.tail _ (.tail _ (.tail _ (.tail _ (.head _)))))
      have hI6 : @Ne Nat sf I := hoff _ (.tail _ (.tail _ (.tail _ (.tail _ (.tail _ (.head _))))))
      have hI7 : @Ne Nat dx I := hoff _ (.tail _ (.tail _ (.tail _ (.tail _ (.tail _ (.tail _ (.head _)))))))
      have hI8 : ∀ p ∈ rs, p.1 ≠ I := fun p hp => hoff p (.tail _ (.tail _ (.tail _ (.tail _ (.tail _ (.tail _ (.tail _ hp)))))))
      have hnv : nv.length ≤ 64 := by
        have h1 := hTp.length
        have h2 := List.getElem?_eq_some_iff.mp hb
        have h3 := hperm.length_eq
        obtain ⟨h2, _⟩ := h2
        exact dn50 0x3efbefbed8102c0f7102e00138043d8207603cb00 (by k_ne) hlen hnal h1 h3 h2
      have htk : cs.take (i + 1) = cs.take i ++ [b] := by rw [List.take_add_one, hb]; rfl
      have hoff0 := hoff
      k_extra "k_stepsI"
      refine opqQ fun RR hRR => ?_
      by_cases hp : i1 + k1 = b.1 ∧ j1 + k1 = b.2.1
      · k_steps
        ((rename Fr _ _ _ _ => F5); (rename News _ _ _ _ => N5); (try simp only [List.push_toArray] at N5); (refine hRR _ _ ?_; (show UnrEndW _ _ _ _ _ _); refine' kj_end ((nv, nn), (i1, _), (j1, _), (k1 + b.2.2, _), rs) F5 N5 (.head _) (fun p hp => .tail _ hp) ?off0 ?hk0 ?hr0 ⟨⟨na, ?hf0, ?ht0, ?hl0⟩, ?hs0, ?hx0, ?hy0⟩); (case off0 => exact hoff0); (case ht0 => exact hTp); (case hs0 => exact hsb); (case hx0 => exact hn1); (case hy0 => exact hn2); (case hl0 => exact dn20 0x3edaf341036040 (by k_ne) hnal); (case hk0 => (((repeat (refine nm_cons17 ?nmh ?_; (case nmh => exact rfl))); exact fun _ hp => nomatch hp))); (case hr0 => (refine sameJ ?_; k_extra "same")); (case hf0 => (rw [htk, List.foldl_append, hna]; (show mgStep _ b = _); unfold mgStep; rw [if_pos (by constructor <;> (dsimp only; (first | lia | omega)))])))
      walk1
      by_cases hk : k1 = 0
      · k_steps
        ((rename Fr _ _ _ _ => F5); (rename News _ _ _ _ => N5); (try simp only [List.push_toArray] at N5); (refine hRR _ _ ?_; (show UnrEndW _ _ _ _ _ _); refine' kj_end ((nv, nn), (b.1, _), (b.2.1, _), (b.2.2, _), rs) F5 (newsTl N5) (.head _) (fun p hp => .tail _ hp) ?off2 ?hk2 ?hr2 ⟨⟨na, ?hf2, ?ht2, ?hl2⟩, ?hs2, ?hx2, ?hy2⟩); (case off2 => exact hoff0); (case ht2 => exact hTp); (case hs2 => exact hsb); (case hx2 => exact hn1); (case hy2 => exact hn2); (case hl2 => exact dn20 0x3edaf341036040 (by k_ne) hnal); (case hk2 => (((repeat (refine nm_cons17 ?nmh ?_; (case nmh => exact rfl))); exact fun _ hp => nomatch hp))); (case hr2 => (refine sameJ ?_; k_extra "same")); (case hf2 => (rw [htk, List.foldl_append, hna]; (show mgStep _ b = _); unfold mgStep; rw [if_neg (by dsimp only; exact dn05 0x3effcec4bc10fb0af040ffcec4bc10fb0af040 (by k_ne) hp)]; dsimp only; rw [if_pos (by (first | lia | omega))])))
      · k_steps
        ((rename Fr _ _ _ _ => F5); (rename News _ _ _ _ => N5); (try simp only [List.push_toArray] at N5); (refine hRR _ _ ?_; (show UnrEndW _ _ _ _ _ _); refine' kj_end ((_, _), (b.1, _), (b.2.1, _), (b.2.2, _), _) F5 (newsTl N5) (.tail _ (.head _)) sub_rotA ?off1 ?hk1 ?hr1 ⟨⟨na ++ [(i1, j1, k1)], ?hf1, ?ht1, ?hl1⟩, ?hs1, ?hx1, ?hy1⟩); (case off1 => ((repeat ((with_reducible refine fall_cons ?_ ?_); k_ne)); exact hI8)); (case ht1 => (dsimp only; exact tp_snoc hTp (fun p hp => .tail _ hp) (.head _))); (case hs1 => exact fun p hp => .tail _ (hsb p hp)); (case hx1 => (intro p hp; (dsimp only at hp); (rcases List.mem_cons.mp hp with rfl | hp; · k_ne); exact hn1 p hp)); (case hy1 => (intro p hp; (dsimp only at hp); (rcases List.mem_cons.mp hp with rfl | hp; · k_ne); exact hn2 p hp)); (case hl1 => (rw [List.length_append, List.length_singleton]; exact dn20 0x3edaf341bcd036040 (by k_ne) hnal)); (case hk1 => (((repeat (refine nm_cons17 ?nmh ?_; (case nmh => exact rfl))); exact fun _ hp => nomatch hp))); (case hr1 => (refine sameJ ?_; k_extra "same")); (case hf1 => (rw [htk, List.foldl_append, hna]; (show mgStep _ b = _); unfold mgStep; rw [if_neg (by dsimp only; exact dn05 0x3effcec4bc10fb0af040ffcec4bc10fb0af040 (by k_ne) hp)]; dsimp only; rw [if_neg (by (first | lia | omega))])))
    case mdone =>
      intro c8
      refine match c8 with | ⟨⟨nv, nn⟩, ⟨i1, ti1⟩, ⟨j1, tj1⟩, ⟨k1, tk1⟩, rs⟩ => ?_
      intro u7 h7 tk7 hP18 F6 N6
      refine opqG fun G8 hG8 => ?_
      obtain ⟨⟨na, hna, hTp, hnal⟩, hsb, hn1, hn2⟩ := hP18
      refine hG8 ?_
      clear hG8 G8
      clear F7 N7
      dsimp only at hna hTp hnal hsb hn1 hn2 F6 N6
      refine fr_let F6 ?_
      clear F6
      intro mf6 F6
      rw [hMs.length, List.take_length] at hna
      have hnv : nv.length ≤ 64 := by
        have h1 := hTp.length
        have h2 := hMs.length
        have h3 := hperm.length_eq
        exact dn50 0x3efbefbed8102c0f8004e040b8043d8207603cb00 (by k_ne) hlen hnal h1 h2 h3
      have hna2 : na.length ≤ 60 := by
        have h2 := hMs.length
        have h3 := hperm.length_eq
        exact dn40 0x3efbefb603cb01e000f80c2d8207603cb00 (by k_ne) hlen hnal h2 h3
      k_extra "k_stepsI"
      (rename Fr _ _ _ _ => FA); refine fr_let FA ?_; clear FA; intro mfA FA
      rename News _ _ _ _ => NA
      refine cutN 1 FA (fun c : (List Value × Nat) × News0 × List Trip => (nl, listOf c.1.1.toArray c.1.2) :: (qa, listOf ([] : List Value).toArray nq) :: (mb, listOf vl.toArray c9) :: (sj, setO l1) :: (db, ob) :: (sf, instObj 323 dx) :: (dx, od) :: c.2.1) (fun _ => mfA) (fun c => TpAll c.2.1 c.1.1 c.2.2 ∧ c.2.2 ++ [((x.length : Int), (y.length : Int), 0)] = ms ∧ c.2.2.length ≤ 61 ∧ c.1.1.length ≤ 65 ∧ (∀ p ∈ rest, p ∈ c.2.1) ∧ (∀ p ∈ c.2.1, p.1 ≠ nl) ∧ (∀ p ∈ c.2.1, p.1 ≠ dx)) ?st1 ?st2
      case st1 =>
        dsimp only [List.take_succ_cons, List.take_zero]
        intro R hR _
        by_cases hk : k1 = 0
        · k_steps
          rename Fr _ _ _ _ => F5
          rename News _ _ _ _ => N5
          refine hR ((nv, nn), rs, na) _ _ F5 N5 ⟨hTp, ?_, Nat.le_succ_of_le hna2, Nat.le_succ_of_le hnv, hsb, hn1, hn2⟩
          rw [← hms, hna]
          unfold mgEnd
          dsimp only
          rw [if_pos hk]
        · k_steps
          rename Fr _ _ _ _ => F5
          rename News _ _ _ _ => N5
          (try simp only [List.push_toArray] at N5)
          refine hR ((nv ++ [_], _), _, na ++ [(i1, j1, k1)]) _ _ F5 (led_rot [_] [_, _, _, _, _, _, _] N5) ⟨tp_snoc hTp (fun p hp => .tail _ hp) (.head _), ?_, ?_, ?_, fun p hp => .tail _ (hsb p hp), fall_cons (by k_ne) hn1, fall_cons (by k_ne) hn2⟩
          · rw [← hms, hna]
            unfold mgEnd
            dsimp only
            rw [if_neg hk]
          · rw [List.length_append, List.length_singleton]; exact Nat.succ_le_succ hna2
          · dsimp only; rw [List.length_append, List.length_singleton]; exact Nat.succ_le_succ hnv
      case st2 =>
        dsimp only [List.drop_succ_cons, List.drop_zero]
        intro c8
        refine match c8 with | ⟨⟨nv1, nn1⟩, rs1, na1⟩ => ?_
        intro h1 tk1 F1 N1 hP18
        refine opqG fun G8 hG8 => ?_
        obtain ⟨hTp1, hms1, hna3, hnv1, hsb1, hn11, hn21⟩ := hP18
        refine hG8 ?_
        clear hG8 G8 FA NA hTp hna hnal hsb hn1 hn2 hnv hna2
        dsimp only at F1 N1 hTp1 hms1 hna3 hnv1 hsb1 hn11 hn21
        show wpAny _ _ (execs (_ :: _) _) _ _ _
        k_steps
        rename Fr _ _ _ _ => F5
        rename News _ _ _ _ => N5
        (try simp only [List.push_toArray] at N5)
        k_dflt (refine' call_map F5 N5 ?clX1 ?_)
        (case clX1 => k_mem)
        intro mo tp it hM q1 q2 q3 F4 N4
        k_steps
        rename Fr _ _ _ _ => F4
        rename News _ _ _ _ => N4
        k_dflt (refine' call_list_map (bs := na1 ++ [((x.length : Int), (y.length : Int), 0)]) ?mhX1 ?mfX1 ?mBX1 ?mFX1 ?mXX1 ?mTX1 ?mkX1 ?mdX1 ?muX1 ?mzX1 ?mNX1 ?mT2X1 ?mlX1 ?mqX1 ?mmX1 ?mtX1 ?mIX1 ?_)
        (case mhX1 => exact rfl)
        (case mfX1 => exact rfl)
        (case mBX1 => k_asm)
        (case mFX1 => exact F4)
        (case mNX1 => exact rot3 N4)
        (case mXX1 => k_asm)
        (case mTX1 => k_asm)
        (case mkX1 => exact rfl)
        (case mdX1 => (dsimp only [A9]; ktr_room))
        (case muX1 => (dsimp only [A9]; ktr_units))
        (case mzX1 => (simp only [List.length_append, List.length_singleton]; exact dn10 0x3ed8102cbcd03603db00 (by k_ne) hna3))
        (case mlX1 => k_mem)
        (case mmX1 => exact .head _)
        (case mtX1 => exact .tail _ (.head _))
        (case mqX1 => exact .tail _ (.tail _ (.head _)))
        (case mT2X1 => exact tp_snoc hTp1 (fun p hp => .tail _ (.tail _ (.tail _ (.tail _ (.tail _ (.tail _ (.tail _ (.tail _ (.tail _ (.tail _ (.tail _ (hp)))))))))))) (.tail _ (.tail _ (.tail _ (.head _)))))
        (case mIX1 =>
          intro z hz
          rcases List.mem_cons.mp hz with rfl | hz
          · k_ne
          rcases List.mem_cons.mp hz with rfl | hz
          · k_ne
          exact Nat.ne_of_lt (q1 z hz))
        intro S hS tkS acc cS rest' hlt FS hsS NS MS neS
        obtain ⟨mt, hmt, hmc⟩ := MS.core
        have hmd : ∀ x ∈ mt, x.1 ≠ dx := fun x hx => ne_of_cls NS (.tail _ (hmc x hx).1) (.tail _ (hsS _ (.tail _ (.tail _ (.tail _ (.tail _ (.tail _ (.tail _ (.tail _ (.tail _ (.tail _ (.tail _ (.head _))))))))))))) (by rw [(hmc x hx).2]; intro e; cases e)
        have lS1 : @LT.lt Nat _ dx S := hlt _ (.tail _ (.tail _ (.tail _ (.tail _ (.tail _ (.tail _ (.tail _ (.tail _ (.tail _ (.tail _ (.head _)))))))))))
        have lS2 : @LT.lt Nat _ sf S := hlt _ (.tail _ (.tail _ (.tail _ (.tail _ (.tail _ (.tail _ (.tail _ (.tail _ (.tail _ (.head _))))))))))
        have lS3 : ∀ p ∈ news, p.1 < S := fun p hp => hlt p (.tail _ (.tail _ (.tail _ (.tail _ (.tail _ (.tail _ (.tail _ (.tail _ (.tail _ (.tail _ (.tail _ (hsb1 p (hsub9 p hp)))))))))))))
        have N8 := gm_led NS (hsS _ (.tail _ (.tail _ (.tail _ (.tail _ (.tail _ (.tail _ (.tail _ (.tail _ (.tail _ (.tail _ (.head _)))))))))))) (hsS _ (.tail _ (.tail _ (.tail _ (.tail _ (.tail _ (.tail _ (.tail _ (.tail _ (.tail _ (.head _))))))))))) (fun x hx => (hmc x hx).1) (fun p hp => hsS p (.tail _ (.tail _ (.tail _ (.tail _ (.tail _ (.tail _ (.tail _ (.tail _ (.tail _ (.tail _ (.tail _ (hsb1 p (hsub9 p hp))))))))))))))
        have hAd : ∀ p ∈ mt ++ news, p.1 ≠ dx := fun p hp => (List.mem_append.mp hp).elim (hmd p) (hndx p)
        clear NS
        k_steps
        rename Fr h₀ L _ m => kF
        rename News h₀ L _ _ => kN
        rw [hms1] at hmt
        exact hret S acc.toList cS mt lS1 lS2 lS3 hmt (fun x hx => (hmc x hx).2) _ _ kF kN
end
end Mine
end
section
open PySem PySem.W PyProof.Rows
namespace Mine
theorem freshC17 : True := by
  k_with_none
  w_top off
  (try (have _h : ∀ (M : Model) (A : Around) (Q : Flow → _) (E : Value → _) (s : Shared) (e : Env), wpAny M A (execs [] e) Q E s := by (intros; walk1; fail "no")))
  k_with "omega" => (first | with_reducible assumption | exact rm1 (by with_reducible assumption) rfl | exact rm2 (by with_reducible assumption) rfl | exact rm3 (by with_reducible assumption) rfl | exact rm4 (by with_reducible assumption) rfl | exact rm0 (by with_reducible assumption) | with_reducible exact ⟨by with_reducible assumption, by with_reducible assumption⟩ | with_reducible exact Or.inl (by with_reducible assumption) | with_reducible exact Or.inr (by with_reducible assumption) | with_reducible exact i1 (by decide) | with_reducible exact i2 | with_reducible exact i3 | with_reducible exact i4 (by decide) | with_reducible exact j1 (by with_reducible assumption) (by decide) | with_reducible exact j2 (by with_reducible assumption) (by decide) | with_reducible exact i5 (by with_reducible assumption) (by decide) | with_reducible exact i6 (by with_reducible assumption) (by decide) | with_reducible exact i7 (by with_reducible assumption))
  trivial
theorem wordsC17_1 : True := by
  k_with "call type:type" => ((with_reducible show wpAny _ _ (call _ [Value.bytes _ _]) _ _ _); refine PySem.call_type_of (Tx := "bytes") rfl (by decide +kernel) ?_)
  k_with "k_all" => (exact neLow (by assumption))
  trivial
noncomputable def ocStep (c : List Op5 × Int × Int) (b : Trip) : List Op5 × Int × Int :=
  let l := if c.2.1 < b.1 ∧ c.2.2 < b.2.1 then c.1 ++ [(Str.ofString "replace", c.2.1, b.1, c.2.2, b.2.1)] else if c.2.1 < b.1 then c.1 ++ [(Str.ofString "delete", c.2.1, b.1, c.2.2, b.2.1)] else if c.2.2 < b.2.1 then c.1 ++ [(Str.ofString "insert", c.2.1, b.1, c.2.2, b.2.1)] else c.1
  (if b.2.2 = 0 then l else l ++ [(Str.ofString "equal", b.1, b.1 + b.2.2, b.2.1, b.2.1 + b.2.2)], b.1 + b.2.2, b.2.1 + b.2.2)
theorem ocStep_of {c : List Op5 × Int × Int} {b : Trip} {l : List Op5} (e : l = cd1 c (b.1, b.2.1)) : ocStep c b = (if b.2.2 = 0 then l else l ++ [(Str.ofString "equal", b.1, b.1 + b.2.2, b.2.1, b.2.1 + b.2.2)], b.1 + b.2.2, b.2.1 + b.2.2) := by subst e; rfl
noncomputable def ocF (ms : List Trip) : List Op5 × Int × Int := ms.foldl ocStep ([], 0, 0)
theorem oc_snoc {news rest : News0} {vt : List Value} {l : List Op5} (h : DatAll rest vt (l.map opD)) (hs : ∀ p ∈ rest, p ∈ news) {T : Addr} {n : Nat} {x : Str} {i a j b : Int} {t0 t1 t2 t3 t4 : Tok} (hm : (T, tupO [.str x t0, .int i t1, .int a t2, .int j t3, .int b t4] n) ∈ news) : DatAll news (vt ++ [.ref T]) ((l ++ [(x, i, a, j, b)]).map opD) := by
  rw [List.map_append]
  exact DatAll.append (h.mono hs) (.one (.tuple hm (.cons (.str _ _) (.cons (.int _ _) (.cons (.int _ _) (.cons (.int _ _) (.cons (.int _ _) .nil)))))))
theorem oc_last {news rest : News0} {vt : List Value} {ds : List Dat} (h : DatAll rest vt ds) (hs : ∀ p ∈ rest, p ∈ news) : DatAll news vt ds := h.mono hs
theorem MtAll.get18 {news : News0} {v : Value} : ∀ {vs : List Value} {bs : List Trip} {i : Nat}, MtAll news vs bs → vs[i]? = some v → ∃ b, bs[i]? = some b ∧ MtV news v b := MtAll.get
theorem sub_oc1 {x1 i a b : Addr × Obj} {r : News0} : ∀ p ∈ a :: b :: x1 :: r, p ∈ x1 :: i :: a :: b :: r := fun p hp => by
  simp only [List.mem_cons] at hp ⊢
  rcases hp with hp | hp | hp | hp <;> simp [hp]
theorem sub_oc2 {x1 x2 i a b : Addr × Obj} {r : News0} : ∀ p ∈ a :: b :: x1 :: x2 :: r, p ∈ x1 :: x2 :: i :: a :: b :: r := fun p hp => by
  simp only [List.mem_cons] at hp ⊢
  rcases hp with hp | hp | hp | hp | hp <;> simp [hp]
theorem sub_oc3 {x1 x2 x3 i a b : Addr × Obj} {r : News0} : ∀ p ∈ a :: b :: x1 :: x2 :: x3 :: r, p ∈ x1 :: x2 :: x3 :: i :: a :: b :: r := fun p hp => by
  simp only [List.mem_cons] at hp ⊢
  rcases hp with hp | hp | hp | hp | hp | hp <;> simp [hp]
theorem nm_cons18 {P : Str × Value → Prop} {a : Str × Value} {l : List (Str × Value)} (h : P a) (t : ∀ p ∈ l, P p) : ∀ p ∈ a :: l, P p := fun p hp => by
  rcases List.mem_cons.mp hp with e | hp
  · rw [e]; exact h
  · exact t p hp
theorem wordsC17_3 : True := by
  k_with "assign Tuple" => (k_here; (with_reducible show wpAny _ _ (assign (Expr.Tuple _ _ _) _ (Value.ref _)) _ _ _); (k_dflt (refine' mt_unpack ?muF ?muX ?muN ?muM ?muH ?mu1 ?mu2 ?_; (case muF => k_asm); (case muX => k_asm); (case muN => k_asm); (case muM => first | k_mem | ((repeat (first | (with_reducible assumption) | (with_reducible refine List.mem_append_right _ ?_) | (with_reducible refine List.mem_cons_of_mem _ ?_))))); (case muH => exact rfl); (case mu1 => exact rfl); (case mu2 => exact rfl); k_whole); intro _ _ _; (try k_sweep)))
  trivial
theorem oc_rot {h₀ h : Heap} {L : Addr} {a b c d e : Addr × Obj} {r : News0} (N : News h₀ L h (a :: b :: c :: d :: e :: r)) : News h₀ L h (b :: c :: d :: e :: a :: r) := fun p hp => N p (by
  simp only [List.mem_cons] at hp ⊢
  rcases hp with hp | hp | hp | hp | hp | hp <;> simp [hp])
theorem oc_led {h₀ h : Heap} {L : Addr} {a S dx sf : Addr × Obj} {mt news : News0} (N : News h₀ L h (S :: dx :: sf :: (mt ++ a :: news))) : News h₀ L h (a :: S :: (mt ++ news)) := fun p hp => N p (by
  simp only [List.mem_cons, List.mem_append] at hp ⊢
  rcases hp with hp | hp | hp | hp <;> simp [hp])
theorem wordsC17_4 : True := by
  k_with "k_steps" => (repeat' ((fail_if_success (with_reducible show InvEndN _ _ _ _ _ _ _)); (fail_if_success (with_reducible show InvEndG _ _ _ _ _ _)); (fail_if_success (with_reducible show UnrEndW _ _ _ _ _ _)); (fail_if_success (with_reducible show wpAny _ _ (pyIter _) _ _ _)); (fail_if_success (with_reducible show wpAny _ _ (call (Value.ref 284) _) _ _ _)); (fail_if_success (with_reducible show wpAny _ _ (exec (Stmt.For _ _ _ _ _) _) _ _ _)); (first | (k_unfold; (try dsimp only)) | (k_end; kc_close) | walk1 | (dsimp only; walk1) | (leave1; walk_say "STEP leave1"; (try dsimp only)) | fail "no step")))
  k_with "ite" => (first | with_reducible refine ite_tt ?_ | with_reducible refine ite_ff ?_ | (with_reducible refine ieq_yes ?_ ?_; (focus (first | lia | omega))) | (with_reducible refine ieq_no ?_ ?_; (focus (first | lia | omega))) | (with_reducible refine ine_yes ?_ ?_; (focus (first | lia | omega))) | (with_reducible refine ine_no ?_ ?_; (focus (first | lia | omega))) | (with_reducible refine idec_yes ?_ ?_; (focus (first | lia | omega))) | (with_reducible refine idec_no ?_ ?_; (focus (first | lia | omega))))
  k_with "call builtin:len" => (k_here; (with_reducible show wpAny _ _ (call (Value.builtin "len") [Value.str _ _]) _ _ _); k_dflt (refine P.len_str ?lnf ?_; (case lnf => (first | lia | omega))))
  k_with "k_all" => (with_reducible assumption)
  k_with "k_all" => (exact neOfLt (by assumption))
  k_with "spliced" => (k_here; (with_reducible show wpAny _ _ (spliced (backTo _ (starEach (_ :: _) _))) _ _ _); k_dflt (refine' args_pure (g := sg) (d := sd) (o := so) ?w8a ?w8F ?w8p ?_; (case w8a => exact rfl); (case w8F => k_asm); (case w8p => exact rfl); k_whole); (dsimp only [PVK, List.cons_append, List.nil_append]); intros)
  k_with "same" => (repeat (first | with_reducible exact sameE | ((with_reducible refine kstJ ?_ ?_ ?_); rfl; rfl) | ((with_reducible refine updJ ?_ ?_); rfl) | ((with_reducible refine upLJ ?_ ?_); rfl)))
  k_with "storeName" => (k_here; k_dflt (first | (refine' storeJ (g := sg) (d := sd) (o := so) ?F ?N ?_ ?a ?b; (case F => k_asm); (case N => k_asm); (case a => rfl); (case b => rfl); k_whole; intro _ _ _ _ _ _) | (refine' storeV (g := sg) (d := sd) (o := so) ?F ?N ?_ ?a ?b; (case F => k_asm); (case N => k_asm); (case a => rfl); (case b => rfl); k_whole; intro _ _ _ _)); (try k_sweep))
  k_with "execs cons" => (k_here; (with_reducible show wpAny _ _ (execs (Stmt.If _ _ _ _ :: _) _) _ _ _); k_dflt (first | (refine' if_yes (g := sg) (d := sd) (o := so) ?w9F ?w9p ?w9P ?_ ?w9a ?w9b; (case w9F => k_asm); (case w9p => exact rfl); (case w9P => first | (first | lia | omega) | (first | exact rfl | assumption | exact ⟨by first | (first | lia | omega) | assumption, by first | exact rfl | assumption | (first | lia | omega)⟩)); (case w9a => exact rfl); (case w9b => first | dsimp only [List.cons_append, List.nil_append] | exact rfl); k_whole; intro _) | (refine' if_no (g := sg) (d := sd) (o := so) ?w9F ?w9p ?w9P ?_ ?w9a ?w9b; (case w9F => k_asm); (case w9p => exact rfl); (case w9P => first | (first | lia | omega) | (first | exact rfl | assumption | exact Or.inl (by first | (first | lia | omega) | assumption | exact rfl) | exact Or.inr (by first | (first | lia | omega) | assumption | exact rfl))); (case w9a => exact rfl); (case w9b => first | dsimp only [List.cons_append, List.nil_append] | exact rfl); k_whole; intro _)))
  k_with "execs cons" => (k_here; (with_reducible show wpAny _ _ (execs (Stmt.Assign [Expr.Name _ _] _ _ :: _) _) _ _ _); k_dflt (refine' as_int (g := sg) (d := sd) (o := so) ?w9F ?w9N ?w9p ?_ ?w9a ?w9b ?w9c; (case w9F => k_asm); (case w9N => k_asm); (case w9p => exact rfl); (case w9a => exact rfl); (case w9b => exact rfl); (case w9c => exact rfl); k_whole; intro _ _ _ _ _ _; (try k_sweep)))
  k_with "execs cons" => (k_here; (with_reducible show wpAny _ _ (execs (Stmt.Expr (Expr.Call (Expr.Attribute (Expr.Name _ _) _ _) [_] [] _) _ :: _) _) _ _ _); first | ((with_reducible show wpAny _ _ (execs (Stmt.Expr (Expr.Call _ [Expr.Tuple _ _ _] _ _) _ :: _) _) _ _ _); k_dflt (refine' app_tup (g := sg) (d := sd) (o := so) ?w5F ?w5N ?w5m ?w5q ?w5p ?w5U ?w5z ?w5v ?_ ?w5k ?w5x ?w5e ?w5i ?w5s; (case w5q => exact rfl); (case w5F => k_asm); (case w5N => k_asm); (case w5m => exact rfl); (case w5p => exact rfl); (case w5U => (intro _; k_upd)); (case w5z => first | exact Nat.le_of_ble_eq_true rfl | lia | omega | (simp only [List.length_append, List.length_cons, List.length_nil]; first | lia | omega)); (case w5v => exact Nat.le_of_ble_eq_true rfl); (case w5k => exact rfl); (case w5x => exact rfl); (case w5e => exact rfl); (case w5i => exact rfl); (case w5s => exact rfl); k_whole; intro _ _ _ _ _ w5n w5l; (try dsimp only [valw] at w5n); (try k_lt w5l))) | ((fail_if_success (with_reducible show wpAny _ _ (execs (Stmt.Expr (Expr.Call _ [Expr.Tuple _ _ _] _ _) _ :: _) _) _ _ _)); k_dflt (first | (refine' app_v (g := sg) (d := sd) (o := so) ?w5F ?w5N ?w5m ?w5q ?w5p ?w5U ?w5z ?_ ?w5k ?w5x ?w5t ?w5e ?w5i ?w5s; (case w5q => exact rfl); (case w5F => k_asm); (case w5N => k_asm); (case w5m => exact rfl); (case w5p => exact rfl); (case w5U => k_upd); (case w5z => first | exact Nat.le_of_ble_eq_true rfl | lia | omega | (simp only [List.length_append, List.length_cons, List.length_nil]; first | lia | omega)); (case w5k => exact rfl); (case w5x => exact rfl); (case w5t => exact rfl); (case w5e => exact rfl); (case w5i => exact rfl); (case w5s => exact rfl); k_whole; intro _ _ _ w5n; (try dsimp only at w5n)) | (refine' app_i (g := sg) (d := sd) (o := so) ?w5F ?w5N ?w5m ?w5q ?w5p ?w5U ?w5z ?_ ?w5k ?w5x ?w5t ?w5e ?w5i ?w5s; (case w5q => exact rfl); (case w5F => k_asm); (case w5N => k_asm); (case w5m => exact rfl); (case w5p => exact rfl); (case w5U => (intro _; k_upd)); (case w5z => first | exact Nat.le_of_ble_eq_true rfl | lia | omega | (simp only [List.length_append, List.length_cons, List.length_nil]; first | lia | omega)); (case w5k => exact rfl); (case w5x => exact rfl); (case w5t => exact rfl); (case w5e => exact rfl); (case w5i => exact rfl); (case w5s => exact rfl); k_whole; intro _ _ _ _ w5n; (try dsimp only at w5n)))); (try k_sweep))
  k_with "assignInOrder" => (k_here; k_dflt (first | (refine' asg_names (g := sg) (d := sd) (o := so) ?w6F ?w6N ?w6p ?w6l ?_ ?w6a ?w6k; (case w6F => k_asm); (case w6N => k_asm); (case w6p => exact rfl); (case w6l => exact rfl); (case w6a => exact rfl); (case w6k => exact rfl); k_whole; intro _ _ _ _ _) | (refine' asg_bind (g := sg) (d := sd) (o := so) ?w6k ?w6F ?w6N ?w6l ?_ ?w6a; (case w6F => k_asm); (case w6N => k_asm); (case w6l => exact rfl); (case w6a => exact rfl); (case w6k => exact rfl); k_whole; intro _ _ _ _ _)); (try k_sweep))
  trivial
section
variable {w : World} {base : Heap} {news : News0}
set_option maxRecDepth 100000
set_option maxHeartbeats 8000000
theorem c_goc (sf dx db sj : Addr) (ob : Obj) (kvs : List (Str × Value)) (x y : Str) (tx ty : Tok) (t1 t2 t3 t4 t5 t6 t7 t8 t9 t10 : Tok) (l1 : Bool) (vp : Value)
    (hsf : @LT.lt Nat _ dx sf) (hdb : @LT.lt Nat _ sf db) (hsj : @LT.lt Nat _ db sj) (hkv : ob.IsDictOf (PySem.strKind PG w) kvs) (hB : B2J [] news kvs y.cps.toList) (hx : x.length ≤ 64) (hy : y.length ≤ 64)
    (K : Nat) (bs cs : List Trip) (hK : K ≤ 1000) (hndx : ∀ p ∈ news, p.1 ≠ dx) (hrun : QRun x y K [(0, x.length, 0, y.length)] bs) (hlen : bs.length ≤ 60) (hperm : cs.Perm bs) (hsrt : cs.Pairwise fun a b => a.1 < b.1) (ms : List Trip) (hms : mgEnd (cs.foldl mgStep ([], 0, 0, 0)) x.length y.length = ms) (hml : ms.length ≤ 64) :
    Con w 10 base ((sj, setO l1) :: (db, ob) :: (sf, instObj 323 dx) :: (dx, dictOf [en w "isjunk" t1 .none, en w "a" t2 (.str x tx), en w "b" t3 (.str y ty), en w "autojunk" t4 (.bool true), en w "matching_blocks" t5 .none, en w "opcodes" t6 .none, en w "fullbcount" t7 .none, en w "b2j" t8 (.ref db), en w "bjunk" t9 (.ref sj), en w "bpopular" t10 vp] 10) :: news) (call (.ref 291) [.ref sf]) (fun G => ∀ (r : Addr) (vt : List Value) (n : Nat) (rest : News0), (∀ p ∈ news, p ∈ rest) → (∀ p ∈ rest, p.1 ≠ r) → DatAll rest vt ((ocF ms).1.map opD) → G (.ref r) ((r, listOf vt.toArray n) :: rest)) := by
  refine Con.mk2 ?_
  intro p loose mean mg mb dp un gd cn cns cg cc cm a ccd cl outer A₀ h₀ L m sh sg sd sk so Q E B F X N T hd hu hret
  refine wpAny_call ?_
  k_dflt k_enter
  have hMk := kstMark
  (rename Fr _ _ _ _ => lFe); refine fr_let lFe ?_; clear lFe; intro me lFe
  refine let_A ?_
  intro A9
  k_steps
  rename_i tka ha1 _ _ _ ha2 _ _ _ ans ha3 ltan ha4 ha5 _ F7 N7
  have a0 := allLt_mem _ ltan.2.2.2.2
  (k_here; (k_dflt (with_unfolding_all refine' For_turns F7 ?_; k_whole)))
  k_steps
  (k_here; k_dflt (refine' Con.use (c_gmb (news := (ans, listOf #[] 0) :: news) sf dx db sj ob kvs x y tx ty t1 t2 t3 t4 t5 t6 t7 t8 t9 t10 l1 (.ref ans) vp hsf hdb hkv (hB.mono fun p hp => .tail _ hp) hx hy K bs cs hK ?kd hrun hlen hperm hsrt ms hms) ?k1 ?k2 ?k3 ?k4 ?k5 ?k6 ?k7 ?k8 ?_; (case k1 => k_asm); (case k2 => k_asm); (case k3 => k_asm); (case k4 => exact oc_rot (by k_asm)); (case k5 => k_asm); (case k6 => exact rfl); (case k7 => ((try dsimp only [A9]); ktr_room)); (case k8 => ((try dsimp only [A9]); ktr_units)); k_whole))
  case kd =>
    intro p hp
    rcases List.mem_cons.mp hp with rfl | hp
    · k_ne
    · exact hndx p hp
  intro S vs c9 mt lS1 lS2 lS3 hmt hmc hS tkS FS NS
  have lS4 : @LT.lt Nat _ ans S := lS3 _ (.head _)
  have hma : ∀ p ∈ mt, p.1 ≠ ans := fun p hp => ne_of_cls NS (.tail _ (.tail _ (.tail _ (List.mem_append_left _ hp)))) (y := (ans, listOf #[] 0)) (.tail _ (.tail _ (.tail _ (List.mem_append_right _ (.head _))))) (by rw [hmc p hp]; intro e; cases e)
  have N6 := oc_led NS
  have hra : ∀ p ∈ mt ++ news, p.1 ≠ ans := fun p hp => (List.mem_append.mp hp).elim (hma p) fun hp => Nat.ne_of_lt (a0 p hp)
  clear NS N7 F7
  k_steps
  k_dflt (with_unfolding_all refine' kj_list (vs := vs) (lo := listOf vs.toArray c9) (σ := (List Value × Nat) × (Int × Tok) × (Int × Tok) × List (Addr × Obj)) (fun c => (ans, listOf c.1.1.toArray c.1.2) :: (S, listOf vs.toArray c9) :: c.2.2.2) (fun c => [("i", .int c.2.1.1 c.2.1.2), ("j", .int c.2.2.1.1 c.2.2.1.2)]) ["ai", "bj", "size", "tag"] (fun i c => (∃ ol, ocF (ms.take i) = (ol, c.2.1.1, c.2.2.1.1) ∧ DatAll c.2.2.2 c.1.1 (ol.map opD) ∧ ol.length ≤ 2 * i) ∧ (∀ p ∈ mt ++ news, p ∈ c.2.2.2) ∧ (∀ p ∈ c.2.2.2, p.1 ≠ ans)) (([], _), (0, _), (0, _), mt ++ news) (by rfl) (fun c => .tail _ (.head _)) (by rfl) (by rfl) FS N6 ?ps0 ?p0 ?mturn ?mdone)
  case ps0 =>
    refine fall_cons (by rfl) ?_
    refine fall_cons (by rfl) ?_
    exact fun _ h => nomatch h
  case p0 => exact ⟨⟨[], rfl, .nil, Nat.zero_le _⟩, fun p hp => hp, hra⟩
  case mturn =>
    intro I o1 c8
    refine match c8 with | ⟨⟨tv, tn⟩, ⟨i1, ti1⟩, ⟨j1, tj1⟩, rs⟩ => ?_
    intro i v u7 h7 tk7 hv hoff hP18 F6 N6'
    refine opqG fun G8 hG8 => ?_
    obtain ⟨⟨ol, hol, hDt, hln⟩, hsb, hn1⟩ := hP18
    refine hG8 ?_
    clear hG8 G8
    clear N6 FS
    dsimp only at hol hDt hsb hn1 F6 N6' hoff
    refine fr_let F6 ?_
    clear F6
    intro mf6 F6
    obtain ⟨b, hb, r2, dm2, u1, u2, u3, rfl, hm2⟩ := hmt.get hv
    have hm3 := hsb _ (List.mem_append_left _ hm2)
    have hI1 : @Ne Nat ans I := hoff _ (.head _)
    have hI2 : @Ne Nat S I := hoff _ (.tail _ (.head _))
    have hI8 : ∀ p ∈ rs, p.1 ≠ I := fun p hp => hoff p (.tail _ (.tail _ hp))
    have htk : ms.take (i + 1) = ms.take i ++ [b] := by rw [List.take_add_one, hb]; rfl
    have hnv : tv.length ≤ 130 := by
      have h1 := hDt.length
      rw [List.length_map] at h1
      have h2 := List.getElem?_eq_some_iff.mp hb
      obtain ⟨h2, _⟩ := h2
      exact dn40 0x3efbefb6082b03dc00b8043db108e076040b00 (by k_ne) hml hln h1 h2
    have hoff0 := hoff
    repeat' ((fail_if_success (with_reducible show wpAny _ _ (execs _ _) _ _ _)); first | walk1 | (dsimp only; walk1))
    rename Fr _ _ _ _ => FA
    rename News _ _ _ _ => NA
    refine fr_let FA ?_
    clear FA
    intro mfA FA
    refine opqQ fun RR hRR => ?_
    refine cutN 3 FA (fun c : (List Value × Nat) × Value × List (Addr × Obj) × List Op5 => (I, o1) :: (ans, listOf c.1.1.toArray c.1.2) :: (S, listOf vs.toArray c9) :: c.2.2.1) (fun c y => if y = Str.ofString "tag" then some c.2.1 else mfA y) (fun c => c.2.2.2 = cd1 (ol, i1, j1) (b.1, b.2.1) ∧ DatAll c.2.2.1 c.1.1 (c.2.2.2.map opD) ∧ c.2.2.2.length ≤ 2 * i + 1 ∧ c.1.1.length ≤ 131 ∧ (∀ p ∈ mt ++ news, p ∈ c.2.2.1) ∧ (∀ p ∈ c.2.2.1, p.1 ≠ ans) ∧ (∀ p ∈ c.2.2.1, p.1 ≠ I)) ?st1 ?st2
    case st1 =>
      dsimp only [List.take_succ_cons, List.take_zero]
      intro R hR _
      by_cases hik : i1 < b.1
      · by_cases hjm : j1 < b.2.1
        · k_steps
          rename Fr _ _ _ _ => F5
          rename News _ _ _ _ => N5
          (try simp only [List.push_toArray] at N5)
          refine' hR ((tv ++ [Value.ref ?D1a], _), .str _ _, (?D1a, ?o1a) :: rs, ol ++ [(Str.ofString "replace", i1, b.1, j1, b.2.1)]) _ _ (frU F5 (fun y hy => if_neg hy)) (news_sub N5 ?hn) ⟨?q1, ?q2, ?q3, ?q4, ?q5, ?q6, ?q7⟩
          case hn =>
            refine fall_cons (by k_mem) ?_
            refine fall_cons (by k_mem) ?_
            refine fall_cons (by k_mem) ?_
            refine fall_cons (by k_mem) ?_
            exact fun p hp => by (repeat (first | exact hp | refine List.Mem.tail _ ?_))
          case q1 => (show _ = cd1 _ _; unfold cd1; dsimp only; rw [if_pos ⟨hik, hjm⟩])
          case q2 => exact oc_snoc hDt (fun p hp => .tail _ hp) (.head _)
          case q3 => (rw [List.length_append, List.length_singleton]; exact dn20 0x3edaf37104ebcd036c41380 (by k_ne) hln)
          case q4 => (dsimp only; rw [List.length_append, List.length_singleton]; exact dn10 0x3ed820ecbcd036082b00 (by k_ne) hnv)
          case q5 => exact fun p hp => .tail _ (hsb p hp)
          case q6 => exact fall_cons (by k_ne) hn1
          case q7 => exact fall_cons (by k_ne) hI8
        · k_steps
          rename Fr _ _ _ _ => F5
          rename News _ _ _ _ => N5
          (try simp only [List.push_toArray] at N5)
          refine' hR ((tv ++ [Value.ref ?D1b], _), .str _ _, (?D1b, ?o1b) :: rs, ol ++ [(Str.ofString "delete", i1, b.1, j1, b.2.1)]) _ _ (frU F5 (fun y hy => if_neg hy)) (news_sub N5 ?hn) ⟨?q1, ?q2, ?q3, ?q4, ?q5, ?q6, ?q7⟩
          case hn =>
            refine fall_cons (by k_mem) ?_
            refine fall_cons (by k_mem) ?_
            refine fall_cons (by k_mem) ?_
            refine fall_cons (by k_mem) ?_
            exact fun p hp => by (repeat (first | exact hp | refine List.Mem.tail _ ?_))
          case q1 => (show _ = cd1 _ _; unfold cd1; dsimp only; rw [if_neg fun h => hjm h.2, if_pos hik])
          case q2 => exact oc_snoc hDt (fun p hp => .tail _ hp) (.head _)
          case q3 => (rw [List.length_append, List.length_singleton]; exact dn20 0x3edaf37104ebcd036c41380 (by k_ne) hln)
          case q4 => (dsimp only; rw [List.length_append, List.length_singleton]; exact dn10 0x3ed820ecbcd036082b00 (by k_ne) hnv)
          case q5 => exact fun p hp => .tail _ (hsb p hp)
          case q6 => exact fall_cons (by k_ne) hn1
          case q7 => exact fall_cons (by k_ne) hI8
      · by_cases hjm : j1 < b.2.1
        · k_steps
          rename Fr _ _ _ _ => F5
          rename News _ _ _ _ => N5
          (try simp only [List.push_toArray] at N5)
          refine' hR ((tv ++ [Value.ref ?D1c], _), .str _ _, (?D1c, ?o1c) :: rs, ol ++ [(Str.ofString "insert", i1, b.1, j1, b.2.1)]) _ _ (frU F5 (fun y hy => if_neg hy)) (news_sub N5 ?hn) ⟨?q1, ?q2, ?q3, ?q4, ?q5, ?q6, ?q7⟩
          case hn =>
            refine fall_cons (by k_mem) ?_
            refine fall_cons (by k_mem) ?_
            refine fall_cons (by k_mem) ?_
            refine fall_cons (by k_mem) ?_
            exact fun p hp => by (repeat (first | exact hp | refine List.Mem.tail _ ?_))
          case q1 => (show _ = cd1 _ _; unfold cd1; dsimp only; rw [if_neg fun h => hik h.1, if_neg hik, if_pos hjm])
          case q2 => exact oc_snoc hDt (fun p hp => .tail _ hp) (.head _)
          case q3 => (rw [List.length_append, List.length_singleton]; exact dn20 0x3edaf37104ebcd036c41380 (by k_ne) hln)
          case q4 => (dsimp only; rw [List.length_append, List.length_singleton]; exact dn10 0x3ed820ecbcd036082b00 (by k_ne) hnv)
          case q5 => exact fun p hp => .tail _ (hsb p hp)
          case q6 => exact fall_cons (by k_ne) hn1
          case q7 => exact fall_cons (by k_ne) hI8
        · k_steps
          rename Fr _ _ _ _ => F5
          rename News _ _ _ _ => N5
          exact hR ((tv, tn), .str _ _, rs, ol) _ _ F5 N5 ⟨(by unfold cd1; dsimp only; rw [if_neg fun h => hik h.1, if_neg hik, if_neg hjm]), hDt, Nat.le_succ_of_le hln, Nat.le_succ_of_le hnv, hsb, hn1, hI8⟩
    case st2 =>
      try dsimp only [List.drop_succ_cons, List.drop_zero]
      intro c8
      refine match c8 with | ⟨⟨tv1, tn1⟩, tg1, rs1, l1⟩ => ?_
      intro h1 tk1 F1 N1 hP18
      refine opqG fun G8 hG8 => ?_
      obtain ⟨hcs, hD1, hl1, hv1, hs1, hn11, hI81⟩ := hP18
      refine hG8 ?_
      clear hG8 G8 FA NA hDt hln hnv hsb hn1 hI8
      dsimp only at F1 N1 hcs hD1 hl1 hv1 hs1 hn11 hI81
      refine fr_let F1 ?_
      clear F1
      intro mf1 F1
      k_steps
      · ((rename Fr _ _ _ _ => F5); (rename News _ _ _ _ => N5); (try simp only [List.push_toArray] at N5); (refine hRR _ _ ?_; (show UnrEndW _ _ _ _ _ _); refine' kj_end ((_, _), (b.1 + b.2.2, _), (b.2.1 + b.2.2, _), _) F5 N5 (.tail _ (.tail _ (.head _))) sub_oc2 ?offK7 ?hkK7 ?hrK7 ⟨⟨l1 ++ [(Str.ofString "equal", b.1, b.1 + b.2.2, b.2.1, b.2.1 + b.2.2)], ?hfK7, ?htK7, ?hlK7⟩, ?hsK7, ?hxK7⟩); (case offK7 => ((repeat ((with_reducible refine fall_cons ?_ ?_); k_ne)); exact hI81)); (case htK7 => (dsimp only; exact oc_snoc hD1 (fun p hp => .tail _ (.tail _ (hp))) (.head _))); (case hsK7 => exact fun p hp => .tail _ (.tail _ (hs1 p hp))); (case hxK7 => ((iterate 2 (refine fall_cons (by k_ne) ?_)); exact hn11)); (case hlK7 => ((try simp only [List.length_append, List.length_singleton]); exact dn20 0x3edb1bcd04ebcd036bcdc41380 (by k_ne) hl1)); (case hkK7 => (((repeat (refine nm_cons18 ?nmh ?_; (case nmh => exact rfl))); exact fun _ hp => nomatch hp))); (case hrK7 => (refine sameJ ?_; k_extra "same")); (case hfK7 => (rw [htk]; unfold ocF at hol ⊢; rw [List.foldl_append, hol]; (show ocStep _ b = _); rw [ocStep_of hcs]; rw [if_neg (show ¬ (b.2.2 = 0) by exact dn01 0x3effb300ffb300 (by k_ne) ‹_›)])))
      · ((rename Fr _ _ _ _ => F5); (rename News _ _ _ _ => N5); (try simp only [List.push_toArray] at N5); (refine hRR _ _ ?_; (show UnrEndW _ _ _ _ _ _); refine' kj_end ((_, _), (b.1 + b.2.2, _), (b.2.1 + b.2.2, _), _) F5 N5 (.tail _ (.head _)) sub_oc1 ?offK8 ?hkK8 ?hrK8 ⟨⟨l1, ?hfK8, ?htK8, ?hlK8⟩, ?hsK8, ?hxK8⟩); (case offK8 => ((repeat ((with_reducible refine fall_cons ?_ ?_); k_ne)); exact hI81)); (case htK8 => (dsimp only; exact oc_last hD1 (fun p hp => .tail _ (hp)))); (case hsK8 => exact fun p hp => .tail _ (hs1 p hp)); (case hxK8 => ((iterate 1 (refine fall_cons (by k_ne) ?_)); exact hn11)); (case hlK8 => ((try simp only [List.length_append, List.length_singleton]); exact dn20 0x3edb1bcd04e036bcdc41380 (by k_ne) hl1)); (case hkK8 => (((repeat (refine nm_cons18 ?nmh ?_; (case nmh => exact rfl))); exact fun _ hp => nomatch hp))); (case hrK8 => (refine sameJ ?_; k_extra "same")); (case hfK8 => (rw [htk]; unfold ocF at hol ⊢; rw [List.foldl_append, hol]; (show ocStep _ b = _); rw [ocStep_of hcs]; rw [if_pos (show b.2.2 = 0 by (first | lia | omega))])))
  case mdone =>
    intro c8
    refine match c8 with | ⟨⟨tv, tn⟩, ⟨i1, ti1⟩, ⟨j1, tj1⟩, rs⟩ => ?_
    intro u7 h7 tk7 hP18 F6 N6'
    refine opqG fun G8 hG8 => ?_
    obtain ⟨⟨ol, hol, hDt, hln⟩, hsb, hn1⟩ := hP18
    refine hG8 ?_
    clear hG8 G8
    clear N6 FS
    dsimp only at hol hDt hsb hn1 F6 N6'
    refine fr_let F6 ?_
    clear F6
    intro mf6 F6
    rw [hmt.length, List.take_length] at hol
    k_steps
    rename Fr h₀ L _ m => kF
    rename News h₀ L _ _ => kN
    refine hret ans tv tn ((S, listOf vs.toArray c9) :: rs) (fun p hp => .tail _ (hsb _ (List.mem_append_right _ hp))) ?hq1 ?hq2 _ _ kF kN
    · intro p hp
      rcases List.mem_cons.mp hp with rfl | hp
      · k_ne
      · exact hn1 p hp
    · rw [hol]
      exact hDt.mono fun p hp => .tail _ hp
end
end Mine
end
section
open PySem PySem.W PyProof.Rows
namespace Mine
theorem snocInd {α : Type} {P : List α → Prop} (h0 : P []) (h1 : ∀ l a, P l → P (l ++ [a])) : ∀ l, P l := by
  intro l
  rw [← List.reverse_reverse l]
  induction l.reverse with
  | nil => exact h0
  | cons a t ih => rw [List.reverse_cons]; exact h1 _ _ ih
theorem and_pow {x : Int} (hx : 0 ≤ x) (k : Nat) {m : Int} (hm : m = 2 ^ k - 1) : Builtin.bitAnd x m = x % 2 ^ k := by
  have hp : (0 : Int) < 2 ^ k := Int.pow_pos (by decide)
  have hm0 : 0 ≤ m := by exact dn02 0x3efb900ce8133bc0d040 (by k_ne) hm hp
  rw [bitAnd_pp hx hm0]
  have e : m.toNat = 2 ^ k - 1 := by
    have : ((2 ^ k : Nat) : Int) = (2 : Int) ^ k := by simp
    rw [hm, ← this]; exact Int.toNat_sub (2 ^ k) 1
  rw [e, Nat.and_two_pow_sub_one_eq_mod]
  have : ((2 ^ k : Nat) : Int) = (2 : Int) ^ k := by simp
  rw [Int.natCast_emod, this, Int.toNat_of_nonneg hx]
theorem or_pow {a b : Int} (k : Nat) (ha : 0 ≤ a) (hb : 0 ≤ b) (hlt : b < 2 ^ k) : Builtin.bitOr (a * 2 ^ k) b = a * 2 ^ k + b := by
  have hk : ((2 ^ k : Nat) : Int) = (2 : Int) ^ k := by simp
  have hp : (0 : Int) < 2 ^ k := Int.pow_pos (by decide)
  rw [bitOr_and, bitAnd_pp (Int.mul_nonneg ha (by (first | lia | omega))) hb]
  have e : (a * 2 ^ k).toNat = 2 ^ k * a.toNat := by
    have : (((2 ^ k * a.toNat : Nat)) : Int) = a * 2 ^ k := by
      rw [Int.natCast_mul, hk, Int.toNat_of_nonneg ha, Int.mul_comm]
    (first | lia | omega)
  rw [e]
  have h1 := @Nat.two_pow_add_eq_or_of_lt k b.toNat (by (first | lia | omega)) a.toNat
  have h2 := nat_or_add_and (2 ^ k * a.toNat) b.toNat
  exact dn42 0xfbeeef040c340ef040e2f040bc30b80af040 (by k_ne) h1 h2
noncomputable def dig (c : Nat) (M : Int) : List Int := (List.range c).map fun i => M / 256 ^ (c - 1 - i) % 256
theorem dig_len (c : Nat) (M : Int) : (dig c M).length = c := by simp [dig]
theorem dig_snoc (c : Nat) (M b : Int) (h0 : 0 ≤ b) (h1 : b < 256) : dig (c + 1) (M * 256 + b) = dig c M ++ [b] := by
  unfold dig
  rw [List.range_succ, List.map_append]
  congr 1
  · apply List.map_congr_left
    intro i hi
    have hi := List.mem_range.mp hi
    obtain ⟨k, hk⟩ : ∃ k, c - 1 - i = k := ⟨_, rfl⟩
    have e : c + 1 - 1 - i = k + 1 := by exact dn30 0x3efb8bcd0b003036f341e02c00c0d077040 (by k_ne) hi hk
    rw [e, hk, Int.pow_succ, Int.mul_comm (256 ^ k) 256, ← Int.ediv_ediv_of_nonneg (by decide)]
    have e2 : (M * 256 + b) / 256 = M := by exact dn02 0x3efbb072100b2f031100b01e8402c03900c (by k_ne) h0 h1
    rw [e2]
  · have e : c + 1 - 1 - c = 0 := by exact dn10 0x3833003036f340 (by k_ne)
    simp only [List.map_cons, List.map_nil, e, Int.pow_zero, Int.ediv_one]
    have : (M * 256 + b) % 256 = b := by exact dn02 0x3efbb033100b2f031100b01e8402c03900c (by k_ne) h0 h1
    rw [this]
theorem fdiv_pos {a b : Int} (hb : 0 ≤ b) : a.fdiv b = a / b := Int.fdiv_eq_ediv_of_nonneg _ hb
theorem fmod_pos {a b : Int} (hb : 0 ≤ b) : a.fmod b = a % b := Int.fmod_eq_emod_of_nonneg _ hb
noncomputable def remN (n : Nat) : Nat := 6 * n - 8 * (6 * n / 8)
theorem octN_eq (vs : List Int) : octN vs = dig (6 * vs.length / 8) (numF vs / 2 ^ remN vs.length) := by
  unfold octN dig
  rw [List.map_map]
  apply List.map_congr_left
  intro i hi
  have hi := List.mem_range.mp hi
  have e1 : (6 * (vs.length : Int)).fdiv 8 = ((6 * vs.length / 8 : Nat) : Int) := by
    rw [fdiv_pos (by decide)]; exact dn10 0x3bd32531012c94c74012 (by k_ne)
  have e2 : (6 * (vs.length : Int) - 8 * (6 * (vs.length : Int)).fdiv 8).toNat = remN vs.length := by
    rw [e1]; exact Int.toNat_sub (6 * vs.length) (8 * (6 * vs.length / 8))
  have e3 : ((6 * (vs.length : Int)).fdiv 8 - 1 + ((i : Nat) : Int) * (-1)).toNat = 6 * vs.length / 8 - 1 - i := by
    rw [e1, Int.mul_neg, Int.mul_one, ← Int.sub_eq_add_neg, Int.sub_sub]; exact (Int.toNat_sub (6 * vs.length / 8) (1 + i)).trans (Nat.sub_sub _ _ _).symm
  show (((numF vs).fdiv _).fdiv (256 ^ _)).fmod 256 = _
  rw [e2, e3, fmod_pos (by decide), fdiv_pos (Int.le_of_lt (Int.pow_pos (by decide))), fdiv_pos (Int.le_of_lt (Int.pow_pos (by decide)))]
noncomputable def lowV (vs : List Int) : Int := numF vs % 2 ^ remN vs.length
theorem numF_nonneg {vs : List Int} (h : ∀ v ∈ vs, 0 ≤ v ∧ v < 64) : 0 ≤ numF vs := by
  induction vs using snocInd with
  | h0 => decide
  | h1 l a ih =>
    rw [numF_snoc]
    have := ih fun v hv => h v (List.mem_append_left _ hv)
    have := h a (by simp)
    exact dn02 0x3efb9bc1c4102c00ce4133900c (by k_ne) ‹_› this.1
noncomputable def moreR (lo v : Int) : Nat → List Int
  | 0 => []
  | 1 => [lo * 4 + v / 16]
  | 2 => [lo * 16 + v / 4]
  | _ => [lo * 64 + v]
noncomputable def lowR (v : Int) : Nat → Int
  | 0 => v
  | 1 => v % 16
  | 2 => v % 4
  | _ => 0
noncomputable def remR : Nat → Nat
  | 0 => 0
  | 1 => 6
  | 2 => 4
  | _ => 2
noncomputable def octMore (n : Nat) (lo v : Int) : List Int := moreR lo v (n % 4)
noncomputable def lowMore (n : Nat) (v : Int) : Int := lowR v (n % 4)
theorem four {P : Nat → Prop} (h0 : P 0) (h1 : P 1) (h2 : P 2) (h3 : P 3) : ∀ r, r < 4 → P r
  | 0, _ => h0
  | 1, _ => h1
  | 2, _ => h2
  | 3, _ => h3
  | _ + 4, h => absurd h (Nat.not_lt.mpr (Nat.le_add_left 4 _))
theorem rem_r {n r : Nat} (h : n % 4 = r) : remN n = 6 * r % 8 := by
  unfold remN
  rw [← Nat.mod_eq_sub, ← Nat.div_add_mod n 4, h]
  generalize n / 4 = k
  rw [show 6 * (4 * k + r) = 6 * r + 8 * (3 * k) by exact dn20 0x38bf1c403d4c414b1bc1c40412 (by k_ne), Nat.add_mul_mod_self_left]
theorem remN_eq (n : Nat) : remN n = remR (n % 4) :=
  four (P := fun r => n % 4 = r → remN n = remR r) rem_r rem_r rem_r rem_r _ (Nat.mod_lt n (by decide)) rfl
theorem low_rng (vs : List Int) : 0 ≤ lowV vs ∧ lowV vs < 2 ^ remN vs.length := ⟨Int.emod_nonneg _ (Int.ne_of_gt (Int.pow_pos (by decide))), Int.emod_lt_of_pos _ (Int.pow_pos (by decide))⟩
theorem ar0 {N v : Int} (h0 : 0 ≤ v) (h1 : v < 64) : (N * 64 + v) / 2 ^ 6 = N / 2 ^ 0 ∧ (N * 64 + v) % 2 ^ 6 = v := by exact dn02 0x3efbcec0cc60aebc0c4102c07bc800ae072182baf031040b01e8102c03900c (by k_ne) h0 h1
theorem ar1 {N v : Int} (h0 : 0 ≤ v) (h1 : v < 64) : (N * 64 + v) / 2 ^ 4 = N / 2 ^ 6 * 256 + (N % 2 ^ 6 * 4 + v / 16) ∧ (N * 64 + v) % 2 ^ 4 = v % 16 := by exact dn02 0x3cef3701cc40aebc1c4102c03bbefc9c071433182b80c4402cc860ae032102baf071040b00 (by k_ne)
theorem ar1' {N v : Int} (h0 : 0 ≤ v) (h1 : v < 64) : 0 ≤ N % 2 ^ 6 * 4 + v / 16 ∧ N % 2 ^ 6 * 4 + v / 16 < 256 := by exact dn02 0x3efbce8402cbf2700c50cc60ae079bf2700c50cc60ae04ce8102c03900c (by k_ne) h0 h1
theorem ar2 {N v : Int} (h0 : 0 ≤ v) (h1 : v < 64) : (N * 64 + v) / 2 ^ 2 = N / 2 ^ 4 * 256 + (N % 2 ^ 4 * 16 + v / 4) ∧ (N * 64 + v) % 2 ^ 2 = v % 4 := by exact dn02 0x3cef3401cc20aebc1c4102c03bbefc90071733102b80c4402cc840ae032082baf071040b00 (by k_ne)
theorem ar2' {N v : Int} (h0 : 0 ≤ v) (h1 : v < 64) : 0 ≤ N % 2 ^ 4 * 16 + v / 4 ∧ N % 2 ^ 4 * 16 + v / 4 < 256 := by exact dn02 0x3efbce8402cbf2400c5ccc40ae079bf2400c5ccc40ae04ce8102c03900c (by k_ne) h0 h1
theorem ar3 {N v : Int} (h0 : 0 ≤ v) (h1 : v < 64) : (N * 64 + v) / 2 ^ 0 = N / 2 ^ 2 * 256 + (N % 2 ^ 2 * 64 + v) ∧ (N * 64 + v) % 2 ^ 0 = 0 := by exact dn02 0x3cecccc00aebc1c4102c03bbef071040b33082b80c4402cc820ae032002baf071040b00 (by k_ne)
theorem ar3' {N v : Int} (h0 : 0 ≤ v) (h1 : v < 64) : 0 ≤ N % 2 ^ 2 * 64 + v ∧ N % 2 ^ 2 * 64 + v < 256 := by exact dn02 0x3efbce8402cbc0c4102ccc20ae079bc0c4102ccc20ae04ce8102c03900c (by k_ne) h0 h1
theorem q0 (q : Nat) : (4 * q + 0) % 4 = 0 ∧ (4 * q + 0 + 1) % 4 = 1 ∧ 6 * (4 * q + 0) / 8 = 3 * q ∧ 6 * (4 * q + 0 + 1) / 8 = 3 * q := by exact dn10 0x3cf3ce3100fc94c6f36f3310104b8c403f2531bccc40412e0dcd0bcdbccc4043833342f331010 (by k_ne)
theorem q1 (q : Nat) : (4 * q + 1) % 4 = 1 ∧ (4 * q + 1 + 1) % 4 = 2 ∧ 6 * (4 * q + 1) / 8 = 3 * q ∧ 6 * (4 * q + 1 + 1) / 8 = 3 * q + 1 := by exact dn10 0x3cf3ce2f37100fc94c6f36f3710104b8c403f2531bcdc40412e0ecd0bcdbcdc4043837342f371010 (by k_ne)
theorem q2 (q : Nat) : (4 * q + 2) % 4 = 2 ∧ (4 * q + 2 + 1) % 4 = 3 ∧ 6 * (4 * q + 2) / 8 = 3 * q + 1 ∧ 6 * (4 * q + 2 + 1) / 8 = 3 * q + 1 + 1 := by exact dn10 0x3cf3ce2f36f37100fc94c6f36f3b10104b8bcdc403f2531bcec40412e0fcd0bcdbcec404383b342f3b1010 (by k_ne)
theorem q3 (q : Nat) : (4 * q + 3) % 4 = 3 ∧ (4 * q + 3 + 1) % 4 = 0 ∧ 6 * (4 * q + 3) / 8 = 3 * q + 2 ∧ 6 * (4 * q + 3 + 1) / 8 = 3 * q + 2 + 1 := by exact dn10 0x3cf3ce2f36f3b100fc94c6f36f3f10104b8bcec403f2531bcfc40412e0ccd0bcdbcfc404383f342f3f1010 (by k_ne)
theorem oct_snoc (vs : List Int) (v : Int) (hv : 0 ≤ v ∧ v < 64) : octN (vs ++ [v]) = octN vs ++ octMore vs.length (lowV vs) v ∧ lowV (vs ++ [v]) = lowMore vs.length v := by
  obtain ⟨q, r, hn, hr⟩ : ∃ q r, vs.length = 4 * q + r ∧ r < 4 := ⟨vs.length / 4, vs.length % 4, by clear hv; exact dn10 0x38bf3400c72400400 (by k_ne), by clear hv; exact dn10 0x37433400 (by k_ne)⟩
  rw [octN_eq, octN_eq]
  unfold lowV octMore lowMore
  rw [numF_snoc]
  simp only [List.length_append, List.length_cons, List.length_nil, Nat.zero_add]
  rw [remN_eq, remN_eq, hn]
  generalize numF vs = N
  clear hn
  revert r
  refine four ?_ ?_ ?_ ?_
  · obtain ⟨e1, e2, e3, e4⟩ := q0 q
    rw [e1, e2, e3, e4]
    exact ⟨(congrArg (dig (3 * q)) (ar0 hv.1 hv.2).1).trans (List.append_nil _).symm, (ar0 hv.1 hv.2).2⟩
  · obtain ⟨e1, e2, e3, e4⟩ := q1 q
    rw [e1, e2, e3, e4]
    exact ⟨(congrArg (dig (3 * q + 1)) (ar1 hv.1 hv.2).1).trans (dig_snoc _ _ _ (ar1' hv.1 hv.2).1 (ar1' hv.1 hv.2).2), (ar1 hv.1 hv.2).2⟩
  · obtain ⟨e1, e2, e3, e4⟩ := q2 q
    rw [e1, e2, e3, e4]
    exact ⟨(congrArg (dig (3 * q + 1 + 1)) (ar2 hv.1 hv.2).1).trans (dig_snoc _ _ _ (ar2' hv.1 hv.2).1 (ar2' hv.1 hv.2).2), (ar2 hv.1 hv.2).2⟩
  · obtain ⟨e1, e2, e3, e4⟩ := q3 q
    rw [e1, e2, e3, e4]
    exact ⟨(congrArg (dig (3 * q + 2 + 1)) (ar3 hv.1 hv.2).1).trans (dig_snoc _ _ _ (ar3' hv.1 hv.2).1 (ar3' hv.1 hv.2).2), (ar3 hv.1 hv.2).2⟩
noncomputable def valsOf (xs : List Int) : List Int := (xs.map b64v).filter fun v => decide (v < 64)
theorem valsOf_snoc (xs : List Int) (x : Int) : valsOf (xs ++ [x]) = if b64v x < 64 then valsOf xs ++ [b64v x] else valsOf xs := by
  unfold valsOf
  rw [List.map_append, List.filter_append]
  by_cases h : b64v x < 64
  · rw [if_pos h]; simp [h]
  · rw [if_neg h]; simp [h]
theorem low_lt (vs : List Int) : 0 ≤ lowV vs ∧ lowV vs < 2 ^ remR (vs.length % 4) := remN_eq vs.length ▸ low_rng vs
theorem and15 {x : Int} (hx : 0 ≤ x) : Builtin.bitAnd x 15 = x % 16 := and_pow hx 4 rfl
theorem and3 {x : Int} (hx : 0 ≤ x) : Builtin.bitAnd x 3 = x % 4 := and_pow hx 2 rfl
theorem and63 {x : Int} (hx : 0 ≤ x) : Builtin.bitAnd x 63 = x % 64 := and_pow hx 6 rfl
theorem and65535 {x : Int} (hx : 0 ≤ x) : Builtin.bitAnd x 65535 = x % 65536 := and_pow hx 16 rfl
theorem dec_read (st : Bool) : ∀ xs : List Int, (∀ x ∈ xs, x ≠ 61 ∧ (b64v x < 64 ∨ st = false)) →
    decAcc st xs = some ⟨octN (valsOf xs), (((valsOf xs).length % 4 : Nat) : Int), lowV (valsOf xs), 0, xs.length⟩ := by
  intro xs
  induction xs using snocInd with
  | h0 => intro _; simp only [decAcc, List.foldlM_nil, valsOf, List.map_nil, List.filter_nil]; rfl
  | h1 l a ih =>
    intro h
    have ha := h a (by simp)
    rw [decAcc_snoc, ih fun x hx => h x (List.mem_append_left _ hx), valsOf_snoc]
    show decStep st _ a = _
    unfold decStep
    rw [if_neg ha.1]
    by_cases hv : b64v a < 64
    · rw [if_pos hv, if_neg (by exact dn01 0xfbfe40040b3a040b00 (by k_ne) hv), if_neg (by simp)]
      have hb := @b64v_le a
      obtain ⟨e1, e2⟩ := oct_snoc (valsOf l) (b64v a) ⟨hb.1, hv⟩
      have hlo := low_lt (valsOf l)
      rw [e1, e2]
      simp only [List.length_append, List.length_singleton]
      obtain ⟨r, hr, hr4⟩ : ∃ r, (valsOf l).length % 4 = r ∧ r < 4 := ⟨_, rfl, by exact dn10 0x37433400 (by k_ne)⟩
      have hr1 : ((valsOf l).length + 1) % 4 = (r + 1) % 4 := by rw [← hr]; exact (Nat.mod_add_mod _ 4 1).symm
      rw [hr1]
      simp only [octMore, lowMore] at hlo ⊢
      rw [hr] at hlo ⊢
      clear hr hr1
      revert hlo
      revert hr4
      revert r
      refine four ?_ ?_ ?_ ?_
      · intro hlo; simp [moreR, lowR]
      · intro hlo
        have hlo : 0 ≤ lowV (valsOf l) ∧ lowV (valsOf l) < 64 := hlo
        have e3 : Builtin.bitOr (lowV (valsOf l) * 2 ^ Int.toNat 2) ((b64v a).fdiv (2 ^ Int.toNat 4)) = lowV (valsOf l) * 4 + b64v a / 16 := by
          show Builtin.bitOr (lowV (valsOf l) * 2 ^ 2) ((b64v a).fdiv 16) = _
          rw [fdiv_pos (by decide), or_pow 2 hlo.1 (by exact dn01 0x3ee7270033900c (by k_ne) hb.1) (by exact dn01 0x3ee820aec9c03a040b00 (by k_ne) hv)]
          rfl
        rw [e3, and15 hb.1]
        simp [moreR, lowR]
      · intro hlo
        have hlo : 0 ≤ lowV (valsOf l) ∧ lowV (valsOf l) < 16 := hlo
        have e3 : Builtin.bitOr (lowV (valsOf l) * 2 ^ Int.toNat 4) ((b64v a).fdiv (2 ^ Int.toNat 2)) = lowV (valsOf l) * 16 + b64v a / 4 := by
          show Builtin.bitOr (lowV (valsOf l) * 2 ^ 4) ((b64v a).fdiv 4) = _
          rw [fdiv_pos (by decide), or_pow 4 hlo.1 (by exact dn01 0x3ee7240033900c (by k_ne) hb.1) (by exact dn01 0x3ee840aec9003a040b00 (by k_ne) hv)]
          rfl
        rw [e3, and3 hb.1]
        simp [moreR, lowR]
      · intro hlo
        have hlo : 0 ≤ lowV (valsOf l) ∧ lowV (valsOf l) < 4 := hlo
        have e3 : Builtin.bitOr (lowV (valsOf l) * 2 ^ Int.toNat 6) (b64v a) = lowV (valsOf l) * 64 + b64v a := by
          show Builtin.bitOr (lowV (valsOf l) * 2 ^ 6) (b64v a) = _
          rw [or_pow 6 hlo.1 (by exact dn01 0x3ee4033900c (by k_ne) hb.1) (by exact dn01 0x3ee860ae03a040b00 (by k_ne) hv)]
          rfl
        rw [e3]
        simp [moreR, lowR]
    · rw [if_neg hv, if_pos (by exact dn01 0xfb900102cffa040b00 (by k_ne) hv), if_neg (by have := ha.2; simp_all)]
      simp
theorem dec_pads : ∀ (zs : List Int) (c : A2), (∀ z ∈ zs, z = 61 ∨ 64 ≤ b64v z) → zs.foldlM (decStep false) c = some ⟨c.ns, c.qp, c.lc, c.p + ((zs.count 61 : Nat) : Int), c.i + ((zs.length : Nat) : Int)⟩
  | [], c, _ => by simp
  | z :: zs, c, h => by
    rw [List.foldlM_cons]
    have hz : decStep false c z = some ⟨c.ns, c.qp, c.lc, c.p + (if z = 61 then 1 else 0), c.i + 1⟩ := by
      unfold decStep
      by_cases h1 : z = 61
      · rw [if_pos h1, if_pos (.inr rfl), if_pos h1]
      · rw [if_neg h1, if_pos ((h z (.head _)).resolve_left h1), if_neg (by decide), if_neg h1]; simp
    rw [hz]
    show List.foldlM (decStep false) _ zs = _
    rw [dec_pads zs _ fun x hx => h x (.tail _ hx)]
    simp only [List.length_cons, List.count_cons, Option.some.injEq, A2.mk.injEq, true_and]
    constructor
    · by_cases h1 : z = 61
      · simp [h1]; exact dn11 0x3bbef374000bf402f340 (by k_ne)
      · simp [h1]
    · exact dn11 0x3bbf4bcd000bf402f340 (by k_ne)
theorem decAcc_append (st : Bool) (xs ys : List Int) : decAcc st (xs ++ ys) = (decAcc st xs).bind fun c => ys.foldlM (decStep st) c := by
  unfold decAcc; rw [List.foldlM_append]; rfl
theorem read_loose {xs ys zs : List Int} (e : xs = ys ++ zs) (hy : ∀ y ∈ ys, y ≠ 61) (hz : ∀ z ∈ zs, z = 61 ∨ 64 ≤ b64v z) :
    (decAcc false xs).bind decEnd = if (valsOf ys).length % 4 = 0 ∨ 3 < (valsOf ys).length % 4 + zs.count 61 ∧ (valsOf ys).length % 4 ≠ 1 then some (octF (valsOf ys)) else none := by
  rw [e, decAcc_append, dec_read false ys fun y h => ⟨hy y h, .inr rfl⟩]
  show (List.foldlM (decStep false) _ zs).bind decEnd = _
  rw [dec_pads zs _ hz]
  show decEnd _ = _
  unfold decEnd
  dsimp only
  generalize (valsOf ys).length % 4 = r
  generalize zs.count 61 = k
  by_cases h1 : r = 1
  · subst h1; simp
  · rw [if_neg (by exact dn10 0xfbfecdd00ff8340 (by k_ne) h1)]
    by_cases h0 : r = 0
    · subst h0; simp; rfl
    · by_cases h2 : r + k < 4
      · rw [if_pos (by exact dn20 0xfbef3a42fbf404cd00ffb33403742f040ff8300 (by k_ne) h0 h2), if_neg (by exact dn20 0xfbeffdf3fe0d037bc100fe0c03742f040ff8300 (by k_ne) h0 h2)]
      · rw [if_neg (by exact dn20 0x3effce90befd0133403feccd00ff742f040 (by k_ne) h2), if_pos (by exact dn20 0xfbef7cff8340def0403f8300ff742f040ff8340 (by k_ne) h1 h2)]
        rfl
theorem read_strict {xs ps : List Int} (hx : ∀ x ∈ xs, x ≠ 61 ∧ b64v x < 64) (hp : (ps = [] ∧ xs.length % 4 = 0) ∨ (ps = [61, 61] ∧ xs.length % 4 = 2) ∨ (ps = [61] ∧ xs.length % 4 = 3)) :
    (decAcc true (xs ++ ps)).bind decEnd = some (octF (xs.map b64v)) := by
  have hv : valsOf xs = xs.map b64v := by
    unfold valsOf
    rw [List.filter_eq_self]
    intro v hv
    obtain ⟨x, h, rfl⟩ := List.mem_map.mp hv
    exact decide_eq_true (hx x h).2
  rw [decAcc_append, dec_read true xs fun y h => ⟨(hx y h).1, .inl (hx y h).2⟩, hv]
  simp only [List.length_map]
  show (List.foldlM (decStep true) _ ps).bind decEnd = _
  rcases hp with ⟨rfl, h⟩ | ⟨rfl, h⟩ | ⟨rfl, h⟩
  · rw [h]; rfl
  · rw [h]; rfl
  · rw [h]; rfl
theorem read_bad {xs : List Int} {x : Int} (hx : x ∈ xs) (h1 : x ≠ 61) (h2 : 64 ≤ b64v x) : (decAcc true xs).bind decEnd = none := by
  obtain ⟨a, b, rfl⟩ := List.append_of_mem hx
  rw [decAcc_append]
  cases decAcc true a with
  | none => rfl
  | some c =>
    show (List.foldlM (decStep true) c (x :: b)).bind decEnd = none
    rw [List.foldlM_cons]
    have : decStep true c x = none := by
      unfold decStep
      rw [if_neg h1, if_pos h2, if_pos rfl]
    rw [this]; rfl
theorem encZ_eq {lc x : Int} (hl : 0 ≤ lc) (h0 : 0 ≤ x) (h1 : x < 256) : encZ lc x = (lc * 256 + x) % 65536 := by
  show Builtin.bitAnd (Builtin.bitOr (lc * 2 ^ 8) x) 65535 = _
  rw [or_pow 8 hl h0 (by exact dn01 0x3ee880ae03a100b00 (by k_ne) h1), and65535 (by exact dn02 0x3efb9bc1c480ae00ce4133900c (by k_ne) hl h0)]
  rfl
theorem encAcc_append (xs ys : List Int) : encAcc (xs ++ ys) = ys.foldl encStep (encAcc xs) := by
  unfold encAcc; rw [List.foldl_append]
theorem sh4 (y : Int) : y % 65536 / 2 ^ 2 % 64 = y / 4 % 64 := by
  rw [Int.emod_def y 65536]
  generalize y / 65536 = k
  rw [show (y - 65536 * k) / 2 ^ 2 = y / 4 - 16384 * k by exact dn02 0x3bc3104000000000000010002dc90032082bb0c41000000000000010000b40 (by k_ne)]
  generalize y / 4 = a
  exact dn02 0x3bcc102c033040b30c41000000000000004000b40 (by k_ne)
theorem sh16 (y : Int) : y % 65536 / 2 ^ 4 % 64 = y / 16 % 64 := by
  rw [Int.emod_def y 65536]
  generalize y / 65536 = k
  rw [show (y - 65536 * k) / 2 ^ 4 = y / 16 - 4096 * k by exact dn02 0x3bc3104000000000000004002dc9c032102bb0c41000000000000010000b40 (by k_ne)]
  generalize y / 16 = a
  exact dn02 0x3bcc102c033040b30c41000000000000001000b40 (by k_ne)
theorem sh64 (y : Int) : y % 65536 / 2 ^ 6 % 64 = y / 64 % 64 := by
  rw [Int.emod_def y 65536]
  generalize y / 65536 = k
  rw [show (y - 65536 * k) / 2 ^ 6 = y / 64 - 1024 * k by exact dn02 0x3bc3105002cc8102c032182bb0c41000000000000010000b40 (by k_ne)]
  generalize y / 64 = a
  exact dn02 0x3bcc102c033040b30c41400b00 (by k_ne)
theorem sh1 (y : Int) : y % 65536 / 2 ^ 0 % 64 = y % 64 := by exact dn01 0x3bcc102c033040b32002bb3000000000000010000b40 (by k_ne)
theorem m4 {y a u : Int} (h0 : 0 ≤ u) (h1 : u < 4) : (y * 256 + (a * 4 + u)) % 65536 % 4 = u := by exact dn03 0x3efbb033433000000000000010000b6fbc0c500b1100b01e9003900c (by k_ne) h0 h1
theorem m16 {y b u : Int} (h0 : 0 ≤ u) (h1 : u < 16) : (y * 256 + (b % 16 * 16 + u)) % 65536 % 16 = u := by exact dn03 0x3efbb033733000000000000010000b6fbc0c5ccdc0b1100b01e9c03900c (by k_ne) h0 h1
theorem q64 {y x : Int} (h0 : 0 ≤ x) (h1 : x < 256) : (y * 256 + x) / 4 % 64 = x / 4 := by
  rw [show (y * 256 + x) / 4 = y * 64 + x / 4 by exact dn02 0x3bbf2401c4102c03242f071100b00 (by k_ne)]
  have a : 0 ≤ x / 4 := by exact dn01 0x3ee7240033900c (by k_ne) h0
  have b : x / 4 < 64 := by exact dn01 0x3ee8102cc9003a100b00 (by k_ne) h1
  generalize x / 4 = u at a b
  exact dn02 0x3efbb033040b2f031040b01e8102c03900c (by k_ne) a b
theorem q16 {y x : Int} (h0 : 0 ≤ x) (h1 : x < 256) : (y * 256 + x) / 16 % 64 = y % 4 * 16 + x / 16 := by exact dn02 0x3efbbbf2700c5ccd0073040b3272f031100b01e8402c03900c (by k_ne) h0 h1
theorem q4 {y x : Int} (h0 : 0 ≤ x) (h1 : x < 256) : (y * 256 + x) / 64 % 64 = y % 16 * 4 + x / 64 := by exact dn02 0x3efbbbf2040b00c50cdc073040b32040b2f031100b01e8402c03900c (by k_ne) h0 h1
theorem q1' {y x : Int} : (y * 256 + x) % 64 = x % 64 := by exact dn02 0x3bcc102c073040b2f071100b00 (by k_ne)
theorem enc1 {out : List Int} {lc x : Int} (hl : 0 ≤ lc) (h0 : 0 ≤ x) (h1 : x < 256) : encStep (out, 0, lc) x = (out ++ [b64c (x / 4)], 2, (lc * 256 + x) % 65536) := by
  unfold encStep
  dsimp only
  rw [if_pos rfl, encZ_eq hl h0 h1, fdiv_pos (by decide), and63 (by exact dn02 0x39c820aecc000000000000040002dbc1c4402c00c (by k_ne))]
  rw [sh4, q64 h0 h1]
theorem enc2 {out : List Int} {lc x : Int} (hl : 0 ≤ lc) (h0 : 0 ≤ x) (h1 : x < 256) : encStep (out, 2, lc) x = (out ++ [b64c (lc % 4 * 16 + x / 16)], 4, (lc * 256 + x) % 65536) := by
  unfold encStep
  dsimp only
  rw [if_neg (by decide), if_pos rfl, encZ_eq hl h0 h1, fdiv_pos (by decide), and63 (by exact dn02 0x39c840aecc000000000000040002dbc1c4402c00c (by k_ne))]
  rw [sh16, q16 h0 h1]
theorem enc3 {out : List Int} {lc x : Int} (hl : 0 ≤ lc) (h0 : 0 ≤ x) (h1 : x < 256) : encStep (out, 4, lc) x = (out ++ [b64c (lc % 16 * 4 + x / 64), b64c (x % 64)], 0, (lc * 256 + x) % 65536) := by
  unfold encStep
  dsimp only
  rw [if_neg (by decide), if_neg (by decide), encZ_eq hl h0 h1, fdiv_pos (by decide), fdiv_pos (by decide), and63 (by exact dn02 0x39c860aecc000000000000040002dbc1c4402c00c (by k_ne)), and63 (by exact dn02 0x39c800aecc000000000000040002dbc1c4402c00c (by k_ne))]
  rw [sh64, q4 h0 h1, sh1, q1']
theorem oct1 {l : List Int} {a : Int} (hl : l.length % 4 = 0) (ha : 0 ≤ a ∧ a < 64) : octN (l ++ [a]) = octN l ∧ lowV (l ++ [a]) = a := by
  obtain ⟨e1, e2⟩ := oct_snoc l a ha
  rw [e1, e2, octMore, lowMore, hl]
  exact ⟨List.append_nil _, rfl⟩
theorem oct2 {l : List Int} {a b : Int} (hl : l.length % 4 = 0) (ha : 0 ≤ a ∧ a < 64) (hb : 0 ≤ b ∧ b < 64) : octN (l ++ [a, b]) = octN l ++ [a * 4 + b / 16] ∧ lowV (l ++ [a, b]) = b % 16 := by
  have e : l ++ [a, b] = (l ++ [a]) ++ [b] := by simp
  obtain ⟨e1, e2⟩ := oct_snoc (l ++ [a]) b hb
  obtain ⟨e3, e4⟩ := oct1 hl ha
  have h1 : (l ++ [a]).length % 4 = 1 := by rw [List.length_append, List.length_singleton]; exact dn10 0x3ee0dcd0bcd038333400 (by k_ne) hl
  rw [e, e1, e2, octMore, lowMore, h1, e3, e4]
  exact ⟨rfl, rfl⟩
theorem oct3 {l : List Int} {a b c : Int} (hl : l.length % 4 = 0) (ha : 0 ≤ a ∧ a < 64) (hb : 0 ≤ b ∧ b < 64) (hc : 0 ≤ c ∧ c < 64) : octN (l ++ [a, b, c]) = octN l ++ [a * 4 + b / 16, b % 16 * 16 + c / 4] ∧ lowV (l ++ [a, b, c]) = c % 4 := by
  have e : l ++ [a, b, c] = (l ++ [a, b]) ++ [c] := by simp
  obtain ⟨e1, e2⟩ := oct_snoc (l ++ [a, b]) c hc
  obtain ⟨e3, e4⟩ := oct2 hl ha hb
  have h1 : (l ++ [a, b]).length % 4 = 2 := by simp; exact dn10 0x3ee0ecd0bce038333400 (by k_ne) hl
  rw [e, e1, e2, octMore, lowMore, h1, e3, e4]
  exact ⟨by simp [moreR], rfl⟩
theorem oct4 {l : List Int} {a b c d : Int} (hl : l.length % 4 = 0) (ha : 0 ≤ a ∧ a < 64) (hb : 0 ≤ b ∧ b < 64) (hc : 0 ≤ c ∧ c < 64) (hd : 0 ≤ d ∧ d < 64) :
    octN (l ++ [a, b, c, d]) = octN l ++ [a * 4 + b / 16, b % 16 * 16 + c / 4, c % 4 * 64 + d] := by
  have e : l ++ [a, b, c, d] = (l ++ [a, b, c]) ++ [d] := by simp
  obtain ⟨e1, e2⟩ := oct_snoc (l ++ [a, b, c]) d hd
  obtain ⟨e3, e4⟩ := oct3 hl ha hb hc
  have h1 : (l ++ [a, b, c]).length % 4 = 3 := by simp; exact dn10 0x3ee0fcd0bcf038333400 (by k_ne) hl
  rw [e, e1, octMore, h1, e3, e4]
  simp [moreR]
theorem f1 {a b : Int} (ha : 0 ≤ a ∧ a < 64) (hb : 0 ≤ b ∧ b < 64) : 0 ≤ a * 4 + b / 16 ∧ a * 4 + b / 16 < 256 := by exact dn02 0x3efbefbce8402cbf2701c50039bf2701c5000ce8102c07904ce8102c03900c (by k_ne) ha.1 ha.2 hb.1 hb.2
theorem f2 {b c : Int} (hc : 0 ≤ c ∧ c < 64) : 0 ≤ b % 16 * 16 + c / 4 ∧ b % 16 * 16 + c / 4 < 256 := by exact dn02 0x3efbce8402cbf2400c5ccdc079bf2400c5ccdc04ce8102c03900c (by k_ne) hc.1 hc.2
theorem f3 {c d : Int} (hd : 0 ≤ d ∧ d < 64) : 0 ≤ c % 4 * 64 + d ∧ c % 4 * 64 + d < 256 := by exact dn02 0x3efbce8402cbc0c4102ccd0079bc0c4102ccd004ce8102c03900c (by k_ne) hd.1 hd.2
theorem f4 (x : Int) : 0 ≤ x % 65536 := by exact dn01 0x39cc000000000000040002d00c (by k_ne)
theorem g1 {a b : Int} (hb : 0 ≤ b ∧ b < 64) : (a * 4 + b / 16) / 4 = a := by exact dn02 0x3efbb07242fc9c031401e8102c03900c (by k_ne) hb.1 hb.2
theorem g2 {lc a b c : Int} (hb : 0 ≤ b ∧ b < 64) (hc : 0 ≤ c ∧ c < 64) : (lc * 256 + (a * 4 + b / 16)) % 65536 % 4 * 16 + (b % 16 * 16 + c / 4) / 16 = b := by
  rw [m4 (show 0 ≤ b / 16 by exact dn01 0x3ee7270033900c (by k_ne) hb.1) (show b / 16 < 4 by exact dn01 0x3ee90c9c03a040b00 (by k_ne) hb.2), show (b % 16 * 16 + c / 4) / 16 = b % 16 by exact dn02 0x3efbbcdc07272fc90031733701e8102c03900c (by k_ne) hc.1 hc.2]
  exact dn01 0x3b02fcdc031732700 (by k_ne)
theorem g3 {x b c d : Int} (hc : 0 ≤ c ∧ c < 64) (hd : 0 ≤ d ∧ d < 64) : (x * 256 + (b % 16 * 16 + c / 4)) % 65536 % 16 * 4 + (c % 4 * 64 + d) / 64 = c := by
  rw [m16 (show 0 ≤ c / 4 by exact dn01 0x3ee7240033900c (by k_ne) hc.1) (show c / 4 < 16 by exact dn01 0x3ee9cc9003a040b00 (by k_ne) hc.2), show (c % 4 * 64 + d) / 64 = c % 4 by exact dn02 0x3efbbcd0072040b2f031040b33401e8102c03900c (by k_ne) hd.1 hd.2]
  exact dn01 0x3b02fcd0031432400 (by k_ne)
theorem g4 {c d : Int} (hd : 0 ≤ d ∧ d < 64) : (c % 4 * 64 + d) % 64 = d := by exact dn02 0x3efbb033040b2f031040b33401e8102c03900c (by k_ne) hd.1 hd.2
theorem enc_four : ∀ (q : Nat) (vs : List Int), vs.length = 4 * q → (∀ v ∈ vs, 0 ≤ v ∧ v < 64) → ∃ lc, 0 ≤ lc ∧ encAcc (octN vs) = (vs.map b64c, 0, lc)
  | 0, vs, h, _ => by
    have : vs = [] := List.eq_nil_of_length_eq_zero (by exact dn10 0x3ee0c038c4c400 (by k_ne) h)
    subst this
    exact ⟨0, by decide, rfl⟩
  | q + 1, vs, h, hv => by
    obtain ⟨l, r, rfl, hl, hr⟩ : ∃ l r, vs = l ++ r ∧ l.length = 4 * q ∧ r.length = 4 := ⟨vs.take (4 * q), vs.drop (4 * q), (List.take_append_drop _ _).symm, by rw [List.length_take]; (first | lia | omega), by rw [List.length_drop]; exact dn20 0x3ee10c31050038c6f341400 (by k_ne) h⟩
    match r, hr with
    | [a, b, c, d], _ =>
      have hb : ∀ x ∈ [a, b, c, d], 0 ≤ x ∧ x < 64 := fun x hx => hv x (List.mem_append_right _ hx)
      have ha1 := hb a (by simp)
      have ha2 := hb b (by simp)
      have ha3 := hb c (by simp)
      have ha4 := hb d (by simp)
      obtain ⟨lc, h0, he⟩ := enc_four q l hl fun v h => hv v (List.mem_append_left _ h)
      rw [oct4 (by exact dn20 0x3ee0ccd0038c41400 (by k_ne) hl) ha1 ha2 ha3 ha4, encAcc_append, he]
      simp only [List.foldl_cons, List.foldl_nil]
      rw [enc1 h0 (f1 ha1 ha2).1 (f1 ha1 ha2).2, enc2 (f4 _) (f2 ha3).1 (f2 ha3).2, enc3 (f4 _) (f3 ha4).1 (f3 ha4).2]
      refine ⟨(((lc * 256 + (a * 4 + b / 16)) % 65536 * 256 + (b % 16 * 16 + c / 4)) % 65536 * 256 + (c % 4 * 64 + d)) % 65536, f4 _, ?_⟩
      rw [g1 ha2, g2 ha2 ha3, g3 ha3 ha4, g4 ha4]
      simp
theorem enc_t0 {l : List Int} (hl : l.length % 4 = 0) (hv : ∀ v ∈ l, 0 ≤ v ∧ v < 64) : encT (encAcc (octN l)) = l.map b64c := by
  obtain ⟨lc, h0, he⟩ := enc_four (l.length / 4) l (by exact dn10 0x3ee31c90010038333400 (by k_ne) hl) hv
  rw [he]; rfl
theorem enc_t1 {l : List Int} (hl : l.length % 4 = 0) (hv : ∀ v ∈ l, 0 ≤ v ∧ v < 64) : encT (encAcc (octN (l ++ [62, 48]))) = (l ++ [62, 48]).map b64c ++ [61, 61] := by
  obtain ⟨lc, h0, he⟩ := enc_four (l.length / 4) l (by exact dn10 0x3ee31c90010038333400 (by k_ne) hl) hv
  rw [(oct2 hl (by decide) (by decide)).1, encAcc_append, he]
  simp only [List.foldl_cons, List.foldl_nil]
  rw [enc1 h0 (by decide) (by decide)]
  unfold encT
  dsimp only
  rw [if_pos rfl, and3 (by exact dn01 0x39cc000000000000040002dbefc9c030b31400facc4402c00c (by k_ne))]
  have e1 : (62 * 4 + 48 / 16 : Int) / 4 = 62 := by decide
  have e2 : (lc * 256 + (62 * 4 + 48 / 16)) % 65536 % 4 * 2 ^ 4 = 48 := by rw [m4 (by decide) (by decide)]; decide
  rw [e1, e2]
  simp
theorem enc_t2 {l : List Int} (hl : l.length % 4 = 0) (hv : ∀ v ∈ l, 0 ≤ v ∧ v < 64) : encT (encAcc (octN (l ++ [62, 63, 48]))) = (l ++ [62, 63, 48]).map b64c ++ [61] := by
  obtain ⟨lc, h0, he⟩ := enc_four (l.length / 4) l (by exact dn10 0x3ee31c90010038333400 (by k_ne) hl) hv
  rw [(oct3 hl (by decide) (by decide) (by decide)).1, encAcc_append, he]
  simp only [List.foldl_cons, List.foldl_nil]
  rw [enc1 h0 (by decide) (by decide), enc2 (by exact dn01 0x39cc000000000000040002dbefc9c03fb31400facc4402c00c (by k_ne)) (by decide) (by decide)]
  unfold encT
  dsimp only
  rw [if_neg (by decide), if_pos rfl, and15 (by exact dn01 0x39cc000000000000040002dbefc90030b31733700fecc4402ccc000000000000040002dbefc9c03fb31400facc4402c00c (by k_ne))]
  have e1 : (62 * 4 + 63 / 16 : Int) / 4 = 62 := by decide
  have e2 : (lc * 256 + (62 * 4 + 63 / 16)) % 65536 % 4 * 16 + (63 % 16 * 16 + 48 / 4) / 16 = 63 := by rw [m4 (by decide) (by decide)]; decide
  have e3 : ((lc * 256 + (62 * 4 + 63 / 16)) % 65536 * 256 + (63 % 16 * 16 + 48 / 4)) % 65536 % 16 * 2 ^ 2 = 48 := by rw [m16 (by decide) (by decide)]; decide
  rw [e1, e2, e3]
  simp
theorem dig_in (c : Nat) (M : Int) : ∀ n ∈ dig c M, 0 ≤ n ∧ n < 256 := by
  intro n hn
  obtain ⟨i, _, rfl⟩ := List.mem_map.mp hn
  exact ⟨Int.emod_nonneg _ (by decide), Int.emod_lt_of_pos _ (by decide)⟩
theorem bInts_of {ns : List Int} (h : ∀ n ∈ ns, 0 ≤ n ∧ n < 256) : KBw.bInts (ns.map fun n => n.toNat.toUInt8).toArray = ns := by
  unfold KBw.bInts
  rw [List.toList_toArray, List.map_map]
  refine (List.map_congr_left (g := id) fun n hn => ?_).trans (List.map_id _)
  have h := h n hn
  show ((n.toNat.toUInt8.toNat : Nat) : Int) = n
  have e : n.toNat.toUInt8.toNat = n.toNat % 256 := by simp
  rw [e, Nat.mod_eq_of_lt ((Int.toNat_lt h.1).mpr h.2)]; exact Int.toNat_of_nonneg h.1
theorem bInts_octF (vs : List Int) : KBw.bInts (octF vs) = octN vs := bInts_of (by rw [octN_eq]; exact dig_in _ _)
theorem bInts_bytF (x : Str) (h : ∀ c ∈ x.cps.toList, c < 128) : KBw.bInts (bytF x) = x.cps.toList.map fun c => ((c : Nat) : Int) := bInts_of (by
  intro n hn
  obtain ⟨c, hc, rfl⟩ := List.mem_map.mp hn
  have := h c hc
  exact dn10 0x3ef3a100b34039d00337080b00 (by k_ne) this)
theorem b64_tab0 : ((List.range 64).all fun k => decide (b64v (b64c ((k : Nat) : Int)) = ((k : Nat) : Int) ∧ b64c ((k : Nat) : Int) ≠ 61 ∧ 0 ≤ b64c ((k : Nat) : Int) ∧ b64c ((k : Nat) : Int) < 128)) = true := by decide +kernel
theorem b64v_c {v : Int} (h0 : 0 ≤ v) (h1 : v < 64) : b64v (b64c v) = v ∧ b64c v ≠ 61 ∧ 0 ≤ b64c v ∧ b64c v < 128 := by
  have h := of_decide_eq_true (List.all_eq_true.mp b64_tab0 v.toNat (List.mem_range.mpr (by (first | lia | omega))))
  rw [show ((v.toNat : Nat) : Int) = v by (first | lia | omega)] at h
  exact h
end Mine
end
section
open PySem PySem.W PyProof.Rows
namespace Mine
theorem kdfLook_put (c : List (Int × Int)) (k v j : Int) : kdfLook (kdfPut c k v) j 0 = if j = k then v else kdfLook c j 0 := by
  unfold kdfLook kdfPut
  by_cases h : (c.any fun p => decide (p.1 = k)) = true
  · rw [if_pos h, List.find?_map]
    have e : ((fun p : Int × Int => decide (p.1 = j)) ∘ fun p => if decide (p.1 = k) = true then (p.1, v) else p) = fun p => decide (p.1 = j) := by
      funext p
      by_cases q : p.1 = k <;> simp [q]
    rw [e]
    by_cases hj : j = k
    · subst hj
      rw [if_pos rfl]
      obtain ⟨p, hp, hp2⟩ := List.any_eq_true.mp h
      cases hf : c.find? fun p => decide (p.1 = j) with
      | none => exact absurd hp2 (by simpa using List.find?_eq_none.mp hf p hp)
      | some q =>
        have := List.find?_some hf
        simp at this
        simp [this]
    · rw [if_neg hj]
      cases hf : c.find? fun p => decide (p.1 = j) with
      | none => rfl
      | some q =>
        have := List.find?_some hf
        simp at this
        have hq : q.1 ≠ k := fun e => hj (by rw [← this, e])
        simp [hq]
  · rw [if_neg h, List.find?_append]
    by_cases hj : j = k
    · subst hj
      rw [if_pos rfl]
      have hf : (c.find? fun p => decide (p.1 = j)) = none := List.find?_eq_none.mpr fun p hp => by
        simp only [Bool.not_eq_true, List.any_eq_false] at h
        simpa using h p hp
      rw [hf]
      simp
    · rw [if_neg hj]
      have : ([(k, v)] : List (Int × Int)).find? (fun p => decide (p.1 = j)) = none := by simp [Ne.symm hj]
      rw [this]
      simp
noncomputable def lnr (M : Nat → Nat → Prop) [∀ i j, Decidable (M i j)] (alo blo : Nat) : Nat → Nat → Nat
  | 0, j => if M alo j then 1 else 0
  | r + 1, j => if M (alo + (r + 1)) j then (if blo < j then lnr M alo blo r (j - 1) else 0) + 1 else 0
noncomputable def lnA (M : Nat → Nat → Prop) [∀ i j, Decidable (M i j)] (alo blo i j : Nat) : Nat := lnr M alo blo (i - alo) j
structure Best (l : Nat → Nat → Nat) (alo blo : Nat) (S : Nat → Nat → Prop) (b : Int × Int × Int) : Prop where
  le : ∀ i j, S i j → ((l i j : Nat) : Int) ≤ b.2.2
  at_ : b = ((alo : Int), (blo : Int), 0) ∨ ∃ i j, S i j ∧ 0 < l i j ∧ b = ((i : Int) + 1 - l i j, (j : Int) + 1 - l i j, (l i j : Int)) ∧ ∀ i' j', S i' j' → l i' j' = l i j → i < i' ∨ (i = i' ∧ j ≤ j')
theorem Best.nonneg {l : Nat → Nat → Nat} {alo blo : Nat} {S : Nat → Nat → Prop} {b : Int × Int × Int} (h : Best l alo blo S b) : 0 ≤ b.2.2 := by
  rcases h.at_ with e | ⟨i, j, _, _, e, _⟩ <;> rw [e] <;> dsimp only <;> (first | lia | omega)
theorem Best.congr {l : Nat → Nat → Nat} {alo blo : Nat} {S S' : Nat → Nat → Prop} {b : Int × Int × Int} (h : Best l alo blo S b) (e : ∀ i j, S' i j → S i j ∨ l i j = 0) (e2 : ∀ i j, S i j → S' i j) : Best l alo blo S' b := by
  refine ⟨fun i j hs => ?_, ?_⟩
  · rcases e i j hs with q | q
    · exact h.le i j q
    · have := h.nonneg; exact dn11 0xfbee40d00e40338300 (by k_ne) q this
  · rcases h.at_ with q | ⟨i, j, hS, hp, hb, hm⟩
    · exact .inl q
    · refine .inr ⟨i, j, e2 i j hS, hp, hb, fun i' j' hs hl => ?_⟩
      rcases e i' j' hs with q | q
      · exact hm i' j' q hl
      · exact dn60 0x3efbef7cd851380c2dc30b8301e0007700c (by k_ne) hp hl q
theorem Best.more {l : Nat → Nat → Nat} {alo blo : Nat} {S : Nat → Nat → Prop} {b : Int × Int × Int} (h : Best l alo blo S b) (i0 j0 : Nat) (hp : 0 < l i0 j0) (hlt : ∀ i j, S i j → i < i0 ∨ (i = i0 ∧ j < j0)) :
    Best l alo blo (fun i j => S i j ∨ (i = i0 ∧ j = j0)) (if ((l i0 j0 : Nat) : Int) > b.2.2 then ((i0 : Int) + 1 - l i0 j0, (j0 : Int) + 1 - l i0 j0, (l i0 j0 : Int)) else b) := by
  by_cases hg : ((l i0 j0 : Nat) : Int) > b.2.2
  · rw [if_pos hg]
    refine ⟨fun i j hs => ?_, .inr ⟨i0, j0, .inr ⟨rfl, rfl⟩, hp, rfl, fun i' j' hs hl => ?_⟩⟩
    · rcases hs with q | ⟨rfl, rfl⟩
      · have := h.le i j q
        dsimp only
        exact dn21 0x3efb9d00d01e40d01eb4000 (by k_ne) hg this
      · exact Int.le_refl _
    · rcases hs with q | ⟨rfl, rfl⟩
      · have := h.le i' j' q
        exact dn61 0x3efbef7cd851380c2dc30b9034078001eb4000 (by k_ne) hg hl this
      · exact .inr ⟨rfl, Nat.le_refl _⟩
  · rw [if_neg hg]
    refine ⟨fun i j hs => ?_, ?_⟩
    · rcases hs with q | ⟨rfl, rfl⟩
      · exact h.le i j q
      · exact dn11 0xfb903403feb4000 (by k_ne) hg
    · rcases h.at_ with q | ⟨i, j, hS, hp', hb, hm⟩
      · exfalso
        rw [q] at hg
        dsimp only at hg
        exact dn10 0xfbfffad0033700c (by k_ne) hp hg
      · refine .inr ⟨i, j, .inl hS, hp', hb, fun i' j' hs hl => ?_⟩
        rcases hs with q | ⟨rfl, rfl⟩
        · exact hm i' j' q hl
        · rcases hlt i j hS with q | ⟨rfl, q⟩
          · exact .inl q
          · exact .inr ⟨rfl, Nat.le_of_lt q⟩
theorem mem_idxOf {Y : List Nat} {c : Nat} {j : Int} : j ∈ idxOf Y c ↔ ∃ k : Nat, j = (k : Int) ∧ Y[k]? = some c := by
  unfold idxOf
  simp only [List.mem_map, List.mem_filter, decide_eq_true_eq, Prod.exists]
  constructor
  · rintro ⟨a, k, ⟨hm, rfl⟩, rfl⟩
    exact ⟨k, rfl, by simpa using (List.mem_zipIdx_iff_getElem?.mp hm)⟩
  · rintro ⟨k, rfl, h⟩
    exact ⟨c, k, ⟨List.mem_zipIdx_iff_getElem?.mpr (by simpa using h), rfl⟩, rfl⟩
section
variable (x y : Str)
noncomputable def MM (i j : Nat) : Prop := j < y.length ∧ x.cps.getD i 0 = y.cps.getD j 0
noncomputable instance (i j : Nat) : Decidable (MM x y i j) := by unfold MM; exact inferInstance
theorem mem_row {i : Nat} {j : Int} : j ∈ idxOf y.cps.toList (x.cps.getD i 0) ↔ ∃ k : Nat, j = (k : Int) ∧ MM x y i k := by
  rw [mem_idxOf]
  refine exists_congr fun k => and_congr_right fun _ => ?_
  unfold MM
  constructor
  · intro h
    obtain ⟨h1, h2⟩ := List.getElem?_eq_some_iff.mp h
    have h3 : k < y.cps.size := by simpa using h1
    exact ⟨h3, by rw [← h2]; simp [Array.getD, h3]⟩
  · rintro ⟨h1, h2⟩
    have h3 : k < y.cps.size := h1
    rw [h2]
    simp [Array.getD, h3]
end
section
variable {x y : Str} {alo blo bhi : Nat}
noncomputable def lk (x y : Str) (alo blo bhi : Nat) : Nat → Int → Int
  | 0, _ => 0
  | r + 1, j => if (blo : Int) ≤ j ∧ j < (bhi : Int) then ((lnr (MM x y) alo blo r j.toNat : Nat) : Int) else 0
theorem lk_step (r j : Nat) (hj : blo ≤ j) (hj2 : j < bhi) (hM : MM x y (alo + r) j) : lk x y alo blo bhi r ((j : Int) - 1) + 1 = ((lnr (MM x y) alo blo r j : Nat) : Int) := by
  cases r with
  | zero =>
    have hM' : MM x y alo j := hM
    show (0 : Int) + 1 = ((if MM x y alo j then 1 else 0 : Nat) : Int)
    rw [if_pos hM']
    rfl
  | succ r =>
    show (if (blo : Int) ≤ (j : Int) - 1 ∧ (j : Int) - 1 < (bhi : Int) then ((lnr (MM x y) alo blo r ((j : Int) - 1).toNat : Nat) : Int) else 0) + 1 = (((if MM x y (alo + (r + 1)) j then (if blo < j then lnr (MM x y) alo blo r (j - 1) else 0) + 1 else 0) : Nat) : Int)
    rw [if_pos hM]
    by_cases hb : blo < j
    · rw [if_pos hb, if_pos (by exact dn30 0x3efbceb4070374039c0dd00d02dc00b7040 (by k_ne) hj2 hb), show ((j : Int) - 1).toNat = j - 1 by (first | lia | omega)]
      exact dn10 0x3bd2f340bcdd00 (by k_ne)
    · rw [if_neg hb, if_neg (by exact dn30 0x3effceb40b0374079c0dd01d00ff7040 (by k_ne) hb)]
      (first | lia | omega)
theorem row_spec (r : Nat) {d : List (Int × Int)} {b : Int × Int × Int} (hd : ∀ j, kdfLook d j 0 = lk x y alo blo bhi r j) (hb : Best (lnA (MM x y) alo blo) alo blo (fun i j => alo ≤ i ∧ i < alo + r ∧ blo ≤ j ∧ j < bhi) b) :
    ∀ (n : Nat) (pre post : List Int), pre.length = n → idxOf y.cps.toList (x.cps.getD (alo + r) 0) = pre ++ post →
      (∀ j, kdfLook ((pre.foldl (jStep blo bhi d ((alo + r : Nat) : Int)) ([], b)).1) j 0 = if j ∈ pre ∧ (blo : Int) ≤ j ∧ j < (bhi : Int) then ((lnr (MM x y) alo blo r j.toNat : Nat) : Int) else 0) ∧
      Best (lnA (MM x y) alo blo) alo blo (fun i j => (alo ≤ i ∧ i < alo + r ∧ blo ≤ j ∧ j < bhi) ∨ (i = alo + r ∧ (j : Int) ∈ pre ∧ blo ≤ j ∧ j < bhi)) (pre.foldl (jStep blo bhi d ((alo + r : Nat) : Int)) ([], b)).2 := by
  intro n
  induction n with
  | zero =>
    intro pre post hl e
    obtain rfl := List.length_eq_zero_iff.mp hl
    refine ⟨fun j => by simp [kdfLook], ?_⟩
    exact hb.congr (fun i j h => by rcases h with h | ⟨_, h, _⟩; exact .inl h; exact absurd h (by simp)) fun i j h => .inl h
  | succ n ih =>
    intro pre post hl e
    obtain ⟨q, a, rfl⟩ : ∃ q a, pre = q ++ [a] := by
      rcases List.eq_nil_or_concat pre with h | ⟨q, a, h⟩
      · subst h; cases hl
      · exact ⟨q, a, by rw [h, List.concat_eq_append]⟩
    have hq : q.length = n := by simpa using hl
    obtain ⟨h1, h2⟩ := ih q (a :: post) hq (by rw [e]; simp)
    have hsort : (q ++ [a] ++ post).Pairwise (· < ·) := e ▸ idxOf_sorted _ _ _ rfl
    have hqa : ∀ z ∈ q, z < a := by
      intro z hz
      have h3 := (List.pairwise_append.mp hsort).1
      exact (List.pairwise_append.mp h3).2.2 z hz a (.head _)
    have ha : a ∈ idxOf y.cps.toList (x.cps.getD (alo + r) 0) := by rw [e]; simp
    obtain ⟨k, rfl, hM⟩ := (mem_row x y).mp ha
    rw [List.foldl_append]
    show (∀ j, kdfLook (jStep blo bhi d ((alo + r : Nat) : Int) (q.foldl (jStep blo bhi d ((alo + r : Nat) : Int)) ([], b)) (k : Int)).1 j 0 = _) ∧ Best _ _ _ _ (jStep blo bhi d ((alo + r : Nat) : Int) (q.foldl (jStep blo bhi d ((alo + r : Nat) : Int)) ([], b)) (k : Int)).2
    generalize q.foldl (jStep blo bhi d ((alo + r : Nat) : Int)) ([], b) = S at h1 h2
    unfold jStep
    by_cases c1 : (k : Int) < (blo : Int)
    · rw [if_pos c1]
      refine ⟨fun j => ?_, h2.congr (fun i j h => ?_) fun i j h => ?_⟩
      · rw [h1]
        by_cases c : j ∈ q ∧ (blo : Int) ≤ j ∧ j < (bhi : Int)
        · rw [if_pos c, if_pos ⟨List.mem_append_left _ c.1, c.2⟩]
        · rw [if_neg c, if_neg]
          rintro ⟨h3, h4⟩
          rcases List.mem_append.mp h3 with h3 | h3
          · exact c ⟨h3, h4⟩
          · rw [List.mem_singleton.mp h3] at h4; exact dn20 0xfbfe7403407ad01d00 (by k_ne) c1 h4.1
      · rcases h with h | ⟨h3, h4, h5⟩
        · exact .inl (.inl h)
        · rcases List.mem_append.mp h4 with h4 | h4
          · exact .inl (.inr ⟨h3, h4, h5⟩)
          · have := List.mem_singleton.mp h4; (first | lia | omega)
      · rcases h with h | ⟨h3, h4, h5⟩
        · exact .inl h
        · exact .inr ⟨h3, List.mem_append_left _ h4, h5⟩
    · rw [if_neg c1]
      by_cases c2 : (bhi : Int) ≤ (k : Int)
      · rw [if_pos c2]
        refine ⟨fun j => ?_, h2.congr (fun i j h => ?_) fun i j h => ?_⟩
        · rw [h1]
          by_cases c : j ∈ q ∧ (blo : Int) ≤ j ∧ j < (bhi : Int)
          · rw [if_pos c, if_pos ⟨List.mem_append_left _ c.1, c.2⟩]
          · rw [if_neg c, if_neg]
            rintro ⟨h3, h4⟩
            rcases List.mem_append.mp h3 with h3 | h3
            · exact c ⟨h3, h4⟩
            · rw [List.mem_singleton.mp h3] at h4; exact dn20 0xfbfeb4034079d01d00 (by k_ne) c2 h4.2
        · rcases h with h | ⟨h3, h4, h5⟩
          · exact .inl (.inl h)
          · rcases List.mem_append.mp h4 with h4 | h4
            · exact .inl (.inr ⟨h3, h4, h5⟩)
            · have := List.mem_singleton.mp h4; (first | lia | omega)
        · rcases h with h | ⟨h3, h4, h5⟩
          · exact .inl h
          · exact .inr ⟨h3, List.mem_append_left _ h4, h5⟩
      · rw [if_neg c2]
        have hk1 : blo ≤ k := by exact dn20 0xfb6001ffad01d00 (by k_ne) c1
        have hk2 : k < bhi := by exact dn20 0xfb7001ff9d01d00 (by k_ne) c2
        have hval : kdfLook d ((k : Int) - 1) 0 + 1 = ((lnr (MM x y) alo blo r k : Nat) : Int) := by rw [hd]; exact lk_step r k hk1 hk2 hM
        have hlA : lnA (MM x y) alo blo (alo + r) k = lnr (MM x y) alo blo r k := by unfold lnA; rw [show alo + r - alo = r by exact dn20 0x3807002f040 (by k_ne)]
        have hpos : 0 < lnA (MM x y) alo blo (alo + r) k := by
          rw [hlA]
          cases r with
          | zero => show 0 < (if MM x y alo k then 1 else 0); rw [if_pos (show MM x y alo k from hM)]; exact Nat.one_pos
          | succ r => show 0 < (if MM x y (alo + (r + 1)) k then _ + 1 else 0); rw [if_pos hM]; exact Nat.succ_pos _
        dsimp only
        rw [hval]
        refine ⟨fun j => ?_, ?_⟩
        · rw [kdfLook_put, h1]
          by_cases cj : j = (k : Int)
          · subst cj
            rw [if_pos rfl, if_pos ⟨by simp, by exact dn20 0xfb9d00d01ffad01d00 (by k_ne) c1, by exact dn20 0xfbad00d01ff9d01d00 (by k_ne) c2⟩, Int.toNat_natCast]
          · rw [if_neg cj]
            by_cases c : j ∈ q ∧ (blo : Int) ≤ j ∧ j < (bhi : Int)
            · rw [if_pos c, if_pos ⟨List.mem_append_left _ c.1, c.2⟩]
            · rw [if_neg c, if_neg]
              rintro ⟨h3, h4⟩
              rcases List.mem_append.mp h3 with h3 | h3
              · exact c ⟨h3, h4⟩
              · exact cj (List.mem_singleton.mp h3)
        · have hb2 := h2.more (alo + r) k hpos (fun i j h => by
            rcases h with ⟨_, h, _⟩ | ⟨h3, h4, _⟩
            · exact .inl h
            · have := hqa _ h4
              exact .inr ⟨h3, by exact dn20 0x3edc103ad01d00 (by k_ne) this⟩)
          rw [hlA] at hb2
          have e2 : (if ((lnr (MM x y) alo blo r k : Nat) : Int) > S.2.2.2 then (((alo + r : Nat) : Int) - ((lnr (MM x y) alo blo r k : Nat) : Int) + 1, (k : Int) - ((lnr (MM x y) alo blo r k : Nat) : Int) + 1, ((lnr (MM x y) alo blo r k : Nat) : Int)) else S.2) = (if ((lnr (MM x y) alo blo r k : Nat) : Int) > S.2.2.2 then (((alo + r : Nat) : Int) + 1 - ((lnr (MM x y) alo blo r k : Nat) : Int), (k : Int) + 1 - ((lnr (MM x y) alo blo r k : Nat) : Int), ((lnr (MM x y) alo blo r k : Nat) : Int)) else S.2) := by
            split
            · refine Prod.ext (by dsimp only; exact dn30 0x3bc340af374bc102f370d02d2f040 (by k_ne)) (Prod.ext (by dsimp only; exact dn20 0x3bc3406f37402f370d01d00 (by k_ne)) rfl)
            · rfl
          rw [e2]
          refine hb2.congr (fun i j h => ?_) fun i j h => ?_
          · rcases h with h | ⟨h3, h4, h5⟩
            · exact .inl (.inl (.inl h))
            · rcases List.mem_append.mp h4 with h4 | h4
              · exact .inl (.inl (.inr ⟨h3, h4, h5⟩))
              · have h6 := List.mem_singleton.mp h4
                exact .inl (.inr ⟨h3, by exact dn20 0x3ee0103bd01d00 (by k_ne) h6⟩)
          · rcases h with (h | ⟨h3, h4, h5⟩) | ⟨rfl, rfl⟩
            · exact .inl h
            · exact .inr ⟨h3, List.mem_append_left _ h4, h5⟩
            · exact .inr ⟨rfl, by simp, hk1, hk2⟩
theorem lnr_zero {r j : Nat} (h : ¬ MM x y (alo + r) j) : lnr (MM x y) alo blo r j = 0 := by
  cases r with
  | zero => show (if MM x y alo j then 1 else 0) = 0; rw [if_neg (show ¬ MM x y alo j from h)]
  | succ r => show (if MM x y (alo + (r + 1)) j then _ + 1 else 0) = 0; rw [if_neg h]
theorem fl_spec : ∀ (n : Nat), (∀ j, kdfLook (flF x y alo blo bhi n).1 j 0 = lk x y alo blo bhi n j) ∧ Best (lnA (MM x y) alo blo) alo blo (fun i j => alo ≤ i ∧ i < alo + n ∧ blo ≤ j ∧ j < bhi) (flF x y alo blo bhi n).2
  | 0 => ⟨fun j => by simp [flF, kdfLook, lk], ⟨fun i j h => by exact dn31 0xfbee40d02def300076040 (by k_ne) h.1 h.2.1, .inl rfl⟩⟩
  | n + 1 => by
    obtain ⟨h1, h2⟩ := fl_spec n
    rw [flF_succ]
    obtain ⟨h3, h4⟩ := row_spec n h1 h2 _ _ [] rfl (by rw [List.append_nil])
    refine ⟨fun j => ?_, ?_⟩
    · refine (h3 j).trans ?_
      show _ = if (blo : Int) ≤ j ∧ j < (bhi : Int) then ((lnr (MM x y) alo blo n j.toNat : Nat) : Int) else 0
      by_cases c : (blo : Int) ≤ j ∧ j < (bhi : Int)
      · rw [if_pos c]
        by_cases c2 : j ∈ idxOf y.cps.toList (x.cps.getD (alo + n) 0)
        · rw [if_pos ⟨c2, c⟩]
        · rw [if_neg fun h => c2 h.1, lnr_zero]
          · rfl
          · intro hM
            exact c2 ((mem_row x y).mpr ⟨j.toNat, by (first | lia | omega), hM⟩)
      · rw [if_neg c, if_neg fun h => c h.2]
    · refine h4.congr (fun i j h => ?_) fun i j h => ?_
      · obtain ⟨a1, a2, a3, a4⟩ := h
        by_cases c : i < alo + n
        · exact .inl (.inl ⟨a1, c, a3, a4⟩)
        · have e : i = alo + n := by exact dn30 0xfbee2f08103fdef081037bef342040 (by k_ne) a2 c
          subst e
          by_cases hM : MM x y (alo + n) j
          · exact .inl (.inr ⟨rfl, (mem_row x y).mpr ⟨j, rfl, hM⟩, a3, a4⟩)
          · refine .inr ?_
            unfold lnA
            rw [show alo + n - alo = n by exact dn20 0x3807002f040 (by k_ne)]
            exact lnr_zero hM
      · rcases h with ⟨a1, a2, a3, a4⟩ | ⟨rfl, _, a3, a4⟩
        · exact ⟨a1, by exact dn30 0x3edefbcd081037bc2040 (by k_ne) a2, a3, a4⟩
        · exact ⟨by exact dn20 0x36bc1000 (by k_ne), by exact dn20 0x37bef34102f040 (by k_ne), a3, a4⟩
end
end Mine
end
section
open PySem PySem.W PyProof.Rows
namespace Mine
theorem lnr_run {M : Nat → Nat → Prop} [∀ i j, Decidable (M i j)] {alo blo : Nat} : ∀ (t r j : Nat), blo ≤ j → t < lnr M alo blo r j → t ≤ r ∧ blo + t ≤ j ∧ M (alo + (r - t)) (j - t)
  | 0, 0, j, hj, h => by
    have h' : 0 < (if M alo j then 1 else 0) := h
    split at h'
    · exact ⟨Nat.le_refl _, hj, by assumption⟩
    · (first | lia | omega)
  | 0, r + 1, j, hj, h => by
    have h' : 0 < (if M (alo + (r + 1)) j then (if blo < j then lnr M alo blo r (j - 1) else 0) + 1 else 0) := h
    split at h'
    · exact ⟨Nat.zero_le _, hj, by assumption⟩
    · (first | lia | omega)
  | t + 1, 0, j, hj, h => by
    have h' : t + 1 < (if M alo j then 1 else 0) := h
    split at h' <;> (first | lia | omega)
  | t + 1, r + 1, j, hj, h => by
    have h' : t + 1 < (if M (alo + (r + 1)) j then (if blo < j then lnr M alo blo r (j - 1) else 0) + 1 else 0) := h
    by_cases c1 : M (alo + (r + 1)) j
    · rw [if_pos c1] at h'
      by_cases c2 : blo < j
      · rw [if_pos c2] at h'
        have c3 : blo ≤ j - 1 := by exact dn20 0x3edb0341037040 (by k_ne) c2
        have c4 : t < lnr M alo blo r (j - 1) := by exact dn20 0x3edc1037bcd06f340 (by k_ne) h'
        obtain ⟨a, b, c⟩ := lnr_run t r (j - 1) c3 c4
        refine ⟨by exact dn20 0x3edaf341bcd036040 (by k_ne) a, by exact dn30 0x3efb606fbcd080db0341bc2037040 (by k_ne) c2 b, ?_⟩
        rw [show r + 1 - (t + 1) = r - t by exact dn20 0x38c01030bcd06f340 (by k_ne), show j - (t + 1) = j - 1 - t by exact dn20 0x38c01c0d030bcd040 (by k_ne)]
        exact c
      · rw [if_neg c2] at h'
        (first | lia | omega)
    · rw [if_neg c1] at h'
      (first | lia | omega)
theorem lnr_ge {M : Nat → Nat → Prop} [∀ i j, Decidable (M i j)] {alo blo : Nat} : ∀ (t r j : Nat), t ≤ r → blo + t ≤ j → (∀ s, s ≤ t → M (alo + (r - s)) (j - s)) → t < lnr M alo blo r j
  | 0, 0, j, _, _, h => by
    show 0 < (if M alo j then 1 else 0)
    have h0 : M alo j := h 0 (Nat.le_refl _)
    rw [if_pos h0]
    exact Nat.one_pos
  | 0, r + 1, j, _, _, h => by
    show 0 < (if M (alo + (r + 1)) j then _ + 1 else 0)
    have h0 : M (alo + (r + 1)) j := h 0 (Nat.le_refl _)
    rw [if_pos h0]
    exact Nat.succ_pos _
  | t + 1, 0, j, h1, _, h => by (first | lia | omega)
  | t + 1, r + 1, j, h1, h2, h => by
    show t + 1 < (if M (alo + (r + 1)) j then (if blo < j then lnr M alo blo r (j - 1) else 0) + 1 else 0)
    have h0 : M (alo + (r + 1)) j := h 0 (Nat.zero_le _)
    rw [if_pos h0, if_pos (by exact dn30 0x3edc20360afbcd040 (by k_ne) h2)]
    have := lnr_ge (M := M) (alo := alo) (blo := blo) t r (j - 1) (by exact dn20 0x3ed81036bcd06f340 (by k_ne) h1) (by exact dn30 0x3edb0342bc10360afbcd040 (by k_ne) h2) fun s hs => by
      have := h (s + 1) (by exact dn20 0x3edaf341bcd036040 (by k_ne) hs)
      rw [show r + 1 - (s + 1) = r - s by exact dn20 0x38c01030bcd06f340 (by k_ne), show j - (s + 1) = j - 1 - s by exact dn20 0x38c01c0d030bcd040 (by k_ne)] at this
      exact this
    exact dn20 0x3edef341bcd037040 (by k_ne) this
structure Kp (x y : Str) (K : List (Nat × Nat)) : Prop where
  mono : K.Pairwise fun a b => a.1 < b.1 ∧ a.2 < b.2
  bnd : ∀ p ∈ K, p.1 < x.length ∧ p.2 < y.length
  mat : ∀ p ∈ K, x.cps.getD p.1 0 = y.cps.getD p.2 0
  crs : ∀ i j, i < x.length → MM x y i j → (i, j) ∉ K → ¬ (0 < i ∧ 0 < j ∧ MM x y (i - 1) (j - 1)) ∧ ¬ (i + 1 < x.length ∧ MM x y (i + 1) (j + 1)) ∧ ((∃ j', j' < j ∧ (i, j') ∈ K) ∨ ∃ i', i' < i ∧ (i', j) ∈ K)
theorem Kp.tri {x y : Str} {K : List (Nat × Nat)} (h : Kp x y K) {a b : Nat × Nat} (ha : a ∈ K) (hb : b ∈ K) : (a.1 < b.1 ∧ a.2 < b.2) ∨ a = b ∨ (b.1 < a.1 ∧ b.2 < a.2) := by
  obtain ⟨i, hi, rfl⟩ := List.getElem_of_mem ha
  obtain ⟨j, hj, rfl⟩ := List.getElem_of_mem hb
  have hw := List.pairwise_iff_getElem.mp h.mono
  rcases Nat.lt_trichotomy i j with q | q | q
  · exact .inl (hw i j hi hj q)
  · subst q; exact .inr (.inl rfl)
  · exact .inr (.inr (hw j i hj hi q))
structure Good (x y : Str) (K : List (Nat × Nat)) (q : Quad) : Prop where
  a1 : q.1 ≤ q.2.1
  a2 : q.2.1 ≤ x.length
  b1 : q.2.2.1 ≤ q.2.2.2
  b2 : q.2.2.2 ≤ y.length
  cons : ∀ p ∈ K, (q.1 ≤ p.1 ∧ p.1 < q.2.1) ↔ (q.2.2.1 ≤ p.2 ∧ p.2 < q.2.2.2)
noncomputable def Kb (K : List (Nat × Nat)) (a b : Nat) : List (Nat × Nat) := K.filter fun p => decide (a ≤ p.1 ∧ p.1 < b)
theorem mem_Kb {K : List (Nat × Nat)} {a b : Nat} {p : Nat × Nat} : p ∈ Kb K a b ↔ p ∈ K ∧ a ≤ p.1 ∧ p.1 < b := by unfold Kb; rw [List.mem_filter, decide_eq_true_eq]
noncomputable abbrev NTrip := Nat × Nat × Nat
noncomputable def expand (b : NTrip) : List (Nat × Nat) := (List.range b.2.2).map fun t => (b.1 + t, b.2.1 + t)
theorem mem_expand {b : NTrip} {p : Nat × Nat} : p ∈ expand b ↔ ∃ t, t < b.2.2 ∧ p = (b.1 + t, b.2.1 + t) := by
  unfold expand
  rw [List.mem_map]
  constructor
  · rintro ⟨t, h, rfl⟩; exact ⟨t, List.mem_range.mp h, rfl⟩
  · rintro ⟨t, h, rfl⟩; exact ⟨t, List.mem_range.mpr h, rfl⟩
noncomputable def cst (b : NTrip) : Trip := ((b.1 : Int), (b.2.1 : Int), (b.2.2 : Int))
theorem sub_step {i t a : Nat} (h : t ≤ i - a) (h0 : ¬ t = 0) : i - t + 1 = i - (t - 1) := by exact dn30 0xfbee30c0d001bcdc0007fe0c036c02040 (by k_ne) h h0
theorem sub_back {i L t a : Nat} (h : L - 1 ≤ i - a) (h0 : 0 < L) (ht : t < L - 1 + 1) : i - (L - 1 - t) = i + 1 - L + t := by
  obtain ⟨d, rfl⟩ := Nat.exists_eq_add_of_le (show t + 1 ≤ L by clear h; exact dn20 0x3efb602f341def37034007700c (by k_ne) h0 ht)
  obtain ⟨e, rfl⟩ := Nat.exists_eq_add_of_le (show t + d ≤ i by clear ht h0; exact dn40 0x3ed82bc1036c030b036f06f340 (by k_ne) h)
  clear h h0 ht
  exact dn30 0x38bc0c2f06f340bcdbc2bc1030c00c0dbc1bcd02f0af040 (by k_ne)
theorem cast_back {i L a : Nat} (h : L - 1 ≤ i - a) (h0 : 0 < L) : (i : Int) + 1 - (L : Int) = ((i + 1 - L : Nat) : Int) := by exact dn30 0xfbbd3002f341c3402f374076c02070340 (by k_ne) h
theorem flm_good {x y : Str} {K : List (Nat × Nat)} (hK : Kp x y K) {q : Quad} (hq : Good x y K q) :
    (Flm x y q q.1 q.2.2.1 0 ∧ Kb K q.1 q.2.1 = []) ∨ ∃ i j n, Flm x y q i j (n + 1) ∧ ∀ t, t < n + 1 → (i + t, j + t) ∈ K := by
  obtain ⟨alo, ahi, blo, bhi⟩ := q
  obtain ⟨a1, a2, b1, b2, cons⟩ := hq
  dsimp only at a1 a2 b1 b2 cons
  obtain ⟨_, hb⟩ := fl_spec (x := x) (y := y) (alo := alo) (blo := blo) (bhi := bhi) (ahi - alo)
  have hln : ∀ i j, alo ≤ i → lnA (MM x y) alo blo i j = lnr (MM x y) alo blo (i - alo) j := fun i j _ => rfl
  have hMpos : ∀ i j, alo ≤ i → blo ≤ j → MM x y i j → 0 < lnA (MM x y) alo blo i j := fun i j h1 h2 hM =>
    lnr_ge 0 (i - alo) j (Nat.zero_le _) h2 fun s hs => by
      have : s = 0 := by exact dn10 0x3ee0c036300 (by k_ne) hs
      subst this
      rw [show alo + (i - alo - 0) = i by exact dn20 0x3ee01bf0330001036040 (by k_ne) h1]
      exact hM
  have hKM : ∀ p ∈ K, MM x y p.1 p.2 := fun p hp => ⟨(hK.bnd p hp).2, hK.mat p hp⟩
  rcases hb.at_ with e | ⟨i, j, ⟨c1, c2, c3, c4⟩, hp, hbe, hfirst⟩
  · left
    have hz : ∀ i j, alo ≤ i → i < ahi → blo ≤ j → j < bhi → ¬ MM x y i j := fun i j h1 h2 h3 h4 hM => by
      have := hb.le i j ⟨h1, by exact dn30 0x3edefc02042037040 (by k_ne) h2, h3, h4⟩
      rw [e] at this
      have := hMpos i j h1 h3 hM
      dsimp only at *
      exact dn10 0x3eff700ce4cd00 (by k_ne) ‹_› this
    refine ⟨⟨a1, a2, b1, b2, e, Nat.le_refl _, by simpa using a1, Nat.le_refl _, by simpa using b1, .inl (Nat.le_refl _), ?_⟩, ?_⟩
    · by_cases c1 : ahi ≤ alo
      · exact .inl (by simpa using c1)
      · by_cases c2 : bhi ≤ blo
        · exact .inr (.inl (by simpa using c2))
        · refine .inr (.inr fun h => ?_)
          exact hz alo blo (Nat.le_refl _) (by exact dn20 0xfb7001ff6040 (by k_ne) c1) (Nat.le_refl _) (by exact dn20 0xfb7001ff6040 (by k_ne) c2) ⟨by exact dn30 0xfbedc10bfd82036040 (by k_ne) b2 c2, by simpa using h⟩
    · rw [List.eq_nil_iff_forall_not_mem]
      intro p hp
      obtain ⟨p1, p2, p3⟩ := mem_Kb.mp hp
      have := (cons p p1).mp ⟨p2, p3⟩
      exact hz p.1 p.2 p2 p3 this.1 this.2 (hKM p p1)
  · right
    generalize hL : lnA (MM x y) alo blo i j = L at *
    have hLr : lnr (MM x y) alo blo (i - alo) j = L := hL
    have run : ∀ t, t < L → t ≤ i - alo ∧ blo + t ≤ j ∧ MM x y (i - t) (j - t) := fun t ht => by
      obtain ⟨r1, r2, r3⟩ := lnr_run t (i - alo) j c3 (by rw [hLr]; exact ht)
      rw [show alo + (i - alo - t) = i - t by exact dn30 0x3efb8c0206fc02c00040db00010b6040 (by k_ne) c1 r1] at r3
      exact ⟨r1, r2, r3⟩
    have rL := run (L - 1) (by exact dn10 0x3edc0c0d03700c (by k_ne) hp)
    have hix : i < ahi := by exact dn30 0x3efb7042defc000400b6040 (by k_ne) a1 c2
    have hKin : ∀ t, t < L → (i - t, j - t) ∈ K := fun t ht => by
      by_cases hk : (i - t, j - t) ∈ K
      · exact hk
      · exfalso
        obtain ⟨r1, r2, r3⟩ := run t ht
        obtain ⟨k1, k2, k3⟩ := hK.crs (i - t) (j - t) (by exact dn40 0x3efb70700c2dc00b6040 (by k_ne) a2 hix) r3 hk
        by_cases hL2 : 2 ≤ L
        · clear k3
          by_cases h0 : t = 0
          · subst h0
            obtain ⟨s1, s2, s3⟩ := run 1 (by exact dn10 0x3edc037600e (by k_ne) hL2)
            exact k1 ⟨by exact dn20 0x3edf0300336c0100d (by k_ne) s1, by exact dn20 0x3edf030133606f340 (by k_ne) s2, s3⟩
          · obtain ⟨s1, s2, s3⟩ := run (t - 1) (by exact dn20 0x3edc1c0d037040 (by k_ne) ht)
            exact k2 ⟨by exact dn50 0xfbefbedc1bcdc030bfe0c0f6c04083dc00b6040 (by k_ne) a2 hix r1 h0, by rw [sub_step r1 h0, show j - t + 1 = j - (t - 1) by exact dn30 0xfbee30c0d042bcdc010bfe0c0760af040 (by k_ne) r2 h0]; exact s3⟩
        · have h1 : L = 1 := by exact dn10 0xfbee0d03fd803b700c (by k_ne) hp hL2
          have h0 : t = 0 := by exact dn20 0xfbee0c03fd813b7040 (by k_ne) ht hL2
          subst h0
          rw [Nat.sub_zero, Nat.sub_zero] at k3
          rcases k3 with ⟨j', hj', hm⟩ | ⟨i', hi', hm⟩
          · have hc := (cons _ hm).mp ⟨c1, hix⟩
            have := hMpos i j' c1 hc.1 (hKM _ hm)
            have h2 := hb.le i j' ⟨c1, by exact dn30 0x3edefc01081037bf0042040 (by k_ne) c2, hc.1, hc.2⟩
            rw [hbe] at h2
            dsimp only at h2
            have := hfirst i j' ⟨c1, by exact dn30 0x3edefc01081037bf0042040 (by k_ne) c2, hc.1, hc.2⟩ (by exact dn20 0x3efbee00079d00d01dc1338340 (by k_ne) h1 this h2)
            exact dn30 0xfbff7cd80078082dc20b7040 (by k_ne) hj' this
          · have hc := (cons _ hm).mpr ⟨c3, c4⟩
            dsimp only at hc
            have := hMpos i' j hc.1 c3 (hKM _ hm)
            have h2 := hb.le i' j ⟨hc.1, by exact dn40 0x3efb7bf0042043dc00f7bf0042040 (by k_ne) c2 hi', c3, c4⟩
            rw [hbe] at h2
            dsimp only at h2
            have := hfirst i' j ⟨hc.1, by exact dn40 0x3efb7bf0042043dc00f7bf0042040 (by k_ne) c2 hi', c3, c4⟩ (by exact dn20 0x3efbee00079d00d01dc1338340 (by k_ne) h1 this h2)
            exact dn30 0xfbff7cd820b8001dc0077040 (by k_ne) hi' this
    refine ⟨i + 1 - L, j + 1 - L, L - 1, ⟨a1, a2, b1, b2, ?_, ?_, ?_, ?_, ?_, ?_, ?_⟩, fun t ht => ?_⟩
    · rw [show L - 1 + 1 = L by exact dn10 0x3ee00bcdc0d03700c (by k_ne) hp]
      exact hbe.trans (Prod.ext (cast_back rL.1 hp) (Prod.ext (cast_back (a := 0) (Nat.le_trans (Nat.le_add_left _ blo) rL.2.1) hp) rfl))
    · dsimp only; exact dn30 0x3efb6c02bcd040db0001c0d0b6040 (by k_ne) c1 rL.1
    · dsimp only; exact dn40 0x3efbed83bef370340c00bcd0770c1db0081c0d03700c (by k_ne) hp rL.1 hix
    · dsimp only; exact dn30 0x3edb006f3420360afc0d040 (by k_ne) rL.2.1
    · dsimp only; exact dn40 0x3efbed81bef370342c02bcd03602fc0d083dc2337040 (by k_ne) c4 hp rL.2.1
    · dsimp only
      by_cases d1 : i + 1 - L ≤ alo
      · exact .inl d1
      · by_cases d2 : j + 1 - L ≤ blo
        · exact .inr (.inl d2)
        · refine .inr (.inr fun h => ?_)
          have : L < lnr (MM x y) alo blo (i - alo) j := lnr_ge L (i - alo) j (by exact dn30 0xfb6c02001ff60b006f340 (by k_ne) d1) (by exact dn30 0xfb602f042ff60b006f340 (by k_ne) d2) fun s hs => by
            rw [show alo + (i - alo - s) = i - s by exact dn40 0xfbee300c0bf00f00800b6043ff60b006f340 (by k_ne) d1 hs]
            by_cases d3 : s < L
            · exact (run s d3).2.2
            · have : s = L := by exact dn20 0xfbee0103fdc1036040 (by k_ne) hs d3
              subst this
              refine ⟨by have := (run 0 hp).2.2.1; exact dn40 0x3efb70700c2dc00b6040 (by k_ne) b2 c4, ?_⟩
              rw [show i - s = i + 1 - s - 1 by exact dn20 0x38c0dc01bcd030040 (by k_ne), show j - s = j + 1 - s - 1 by exact dn20 0x38c0dc01bcd030040 (by k_ne)]
              exact h
          exact dn20 0xfbfdc0078040 (by k_ne) hLr this
    · dsimp only
      by_cases d1 : ahi ≤ i + 1 - L + (L - 1 + 1)
      · exact .inl d1
      · by_cases d2 : bhi ≤ j + 1 - L + (L - 1 + 1)
        · exact .inr (.inl d2)
        · refine .inr (.inr fun h => ?_)
          rw [show i + 1 - L + (L - 1 + 1) = i + 1 by exact dn30 0x3efb8bcd06fbcdc0d03002f341db0081c0d03700c (by k_ne) hp rL.1] at h d1
          rw [show j + 1 - L + (L - 1 + 1) = j + 1 by exact dn30 0x3efb8bcd0afbcdc0d03002f342d82bf034007700c (by k_ne) hp rL.2.1] at h d2
          have hM1 : MM x y (i + 1) (j + 1) := ⟨by exact dn30 0xfbedc1bcd0bfdaf342036040 (by k_ne) b2 d2, h⟩
          have : L < lnr (MM x y) alo blo (i + 1 - alo) (j + 1) := lnr_ge L (i + 1 - alo) (j + 1) (by exact dn30 0x3efb6c00bcd042db0001c0d0b6040 (by k_ne) c1 rL.1) (by exact dn30 0x3edaf342bc10360afc0d040 (by k_ne) rL.2.1) fun s hs => by
            rw [show alo + (i + 1 - alo - s) = i + 1 - s by exact dn40 0x3efbee300ef341bf00f002f341036083db0001c0d0b6040 (by k_ne) c1 rL.1 hs]
            by_cases d3 : s = 0
            · subst d3; exact hM1
            · rw [show i + 1 - s = i - (s - 1) by exact dn20 0xfb8c3034007002f341ff8300 (by k_ne) d3, show j + 1 - s = j - (s - 1) by exact dn20 0xfb8c3034007002f341ff8300 (by k_ne) d3]
              exact (run (s - 1) (by exact dn20 0x3efb7030341d8007700c (by k_ne) hp hs)).2.2
          have h2 := hb.le (i + 1) (j + 1) ⟨by exact dn20 0x3edaf341036040 (by k_ne) c1, by exact dn30 0xfb7bf00800af341ff6bcd040 (by k_ne) d1, by exact dn20 0x3edaf341036040 (by k_ne) c3, by exact dn20 0xfb702f341ff6bcd040 (by k_ne) d2⟩
          rw [hbe] at h2
          dsimp only at h2
          have h3 : lnA (MM x y) alo blo (i + 1) (j + 1) = lnr (MM x y) alo blo (i + 1 - alo) (j + 1) := rfl
          exact dn30 0xfbeff8042e740340b7040 (by k_ne) this h2 h3
    · have := hKin (L - 1 - t) (by exact dn20 0x3edc0c01c0d03700c (by k_ne) hp)
      rw [sub_back rL.1 hp ht, sub_back (a := 0) (Nat.le_trans (Nat.le_add_left _ blo) rL.2.1) hp ht] at this
      exact this
end Mine
end
section
open PySem PySem.W PyProof.Rows
namespace Mine
theorem sorted_ext {l₁ l₂ : List (Nat × Nat)} (h1 : l₁.Pairwise fun a b => a.1 < b.1) (h2 : l₂.Pairwise fun a b => a.1 < b.1) (h : ∀ p, p ∈ l₁ ↔ p ∈ l₂) : l₁ = l₂ := by
  have n1 : l₁.Nodup := h1.imp fun h e => by rw [e] at h; exact Nat.lt_irrefl _ h
  have n2 : l₂.Nodup := h2.imp fun h e => by rw [e] at h; exact Nat.lt_irrefl _ h
  exact List.Perm.eq_of_pairwise (le := fun a b => a.1 < b.1) (fun a b _ _ x y => by (first | lia | omega)) h1 h2 ((List.perm_ext_iff_of_nodup n1 n2).mpr h)
theorem Kp.mono1 {x y : Str} {K : List (Nat × Nat)} (h : Kp x y K) : K.Pairwise fun a b => a.1 < b.1 := h.mono.imp fun h => h.1
theorem expand_sorted (b : NTrip) : (expand b).Pairwise fun a b => a.1 < b.1 := by
  unfold expand
  rw [List.pairwise_map]
  exact (List.pairwise_lt_range).imp fun h => by dsimp only; exact dn30 0x3edef042bc00b7040 (by k_ne) h
theorem Kb_split {x y : Str} {K : List (Nat × Nat)} (hK : Kp x y K) {a b i j n : Nat} (h1 : a ≤ i) (h2 : i + n ≤ b) (hin : ∀ t, t < n → (i + t, j + t) ∈ K) :
    Kb K a b = Kb K a i ++ expand (i, j, n) ++ Kb K (i + n) b := by
  have s1 : (Kb K a i).Pairwise fun a b => a.1 < b.1 := hK.mono1.filter _
  have s3 : (Kb K (i + n) b).Pairwise fun a b => a.1 < b.1 := hK.mono1.filter _
  refine sorted_ext (hK.mono1.filter _) ?_ fun p => ?_
  · rw [List.pairwise_append]
    refine ⟨List.pairwise_append.mpr ⟨s1, expand_sorted _, fun p hp r hr => ?_⟩, s3, fun p hp r hr => ?_⟩
    · obtain ⟨t, ht, rfl⟩ := mem_expand.mp hr
      have := (mem_Kb.mp hp).2.2
      dsimp only
      exact dn30 0x3edef081037040 (by k_ne) this
    · have := (mem_Kb.mp hr).2.1
      rcases List.mem_append.mp hp with hp | hp
      · have := (mem_Kb.mp hp).2.2
        exact dn40 0x3efb7083dc00f60af040 (by k_ne) ‹_› this
      · obtain ⟨t, ht, rfl⟩ := mem_expand.mp hp
        dsimp only at *
        exact dn40 0x3efb70af0c0dc10f60af040 (by k_ne) this ht
  · rw [List.mem_append, List.mem_append, mem_Kb, mem_Kb, mem_Kb, mem_expand]
    constructor
    · rintro ⟨p1, p2, p3⟩
      by_cases c1 : p.1 < i
      · exact .inl (.inl ⟨p1, p2, c1⟩)
      · by_cases c2 : p.1 < i + n
        · refine .inl (.inr ⟨p.1 - i, by dsimp only; exact dn30 0xfbedc2c01037bc2040ff7040 (by k_ne) c1 c2, ?_⟩)
          have hm := hin (p.1 - i) (by exact dn30 0xfbedc2c01037bc2040ff7040 (by k_ne) c1 c2)
          rcases hK.tri p1 hm with q | q | q
          · exact absurd q.1 (by dsimp only; exact dn20 0x3eff7bf0040040ff7040 (by k_ne) c1)
          · exact q
          · exact absurd q.1 (by dsimp only; exact dn20 0xff706fc00040 (by k_ne))
        · exact .inr ⟨p1, by exact dn30 0xfb602f081ff7bc2040 (by k_ne) c2, p3⟩
    · rintro ((⟨p1, p2, p3⟩ | ⟨t, ht, rfl⟩) | ⟨p1, p2, p3⟩)
      · exact ⟨p1, p2, by exact dn40 0x3efb7083dc00f60af040 (by k_ne) h2 p3⟩
      · dsimp only at *
        exact ⟨hin t ht, by exact dn30 0x3edaf081036040 (by k_ne) h1, by exact dn40 0x3efb70af0c0dc10f60af040 (by k_ne) h2 ht⟩
      · exact ⟨p1, by exact dn40 0x3efb60c0d83bc2076040 (by k_ne) h1 p2, p3⟩
theorem good_left {x y : Str} {K : List (Nat × Nat)} (hK : Kp x y K) {a b c d i j : Nat} (hq : Good x y K (a, b, c, d)) (h1 : a ≤ i) (h2 : i ≤ b) (h3 : c ≤ j) (h4 : j ≤ d) (hin : (i, j) ∈ K) : Good x y K (a, i, c, j) := by
  refine ⟨h1, Nat.le_trans h2 hq.a2, h3, Nat.le_trans h4 hq.b2, fun p hp => ?_⟩
  have hc := hq.cons p hp
  have hd := hq.cons _ hin
  have ht := hK.tri hp hin
  dsimp only at *
  constructor
  · rintro ⟨q1, q2⟩
    have := hc.mp ⟨q1, by exact dn30 0x3efb7042dc00b6040 (by k_ne) h2 q2⟩
    rcases ht with t | t | t
    · exact ⟨this.1, t.2⟩
    · rw [t] at q2; dsimp only at q2; exact dn40 0x3ef370c2d82077000 (by k_ne) q2
    · exact dn50 0x3efbcdc40f60c2dc0077040 (by k_ne) q2 t.1
  · rintro ⟨q1, q2⟩
    have := hc.mpr ⟨q1, by exact dn30 0x3efb7042dc00b6040 (by k_ne) h4 q2⟩
    rcases ht with t | t | t
    · exact ⟨this.1, t.1⟩
    · rw [t] at q2; dsimp only at q2; exact dn40 0x3ef370c2d82077000 (by k_ne) q2
    · exact dn50 0x3efbcdc40f60c2dc0077040 (by k_ne) q2 t.2
theorem good_right {x y : Str} {K : List (Nat × Nat)} (hK : Kp x y K) {a b c d i j : Nat} (hq : Good x y K (a, b, c, d)) (h1 : a ≤ i) (h2 : i + 1 ≤ b) (h3 : c ≤ j) (h4 : j + 1 ≤ d) (hin : (i, j) ∈ K) : Good x y K (i + 1, b, j + 1, d) := by
  refine ⟨h2, hq.a2, h4, hq.b2, fun p hp => ?_⟩
  have hc := hq.cons p hp
  have ht := hK.tri hp hin
  dsimp only at *
  constructor
  · rintro ⟨q1, q2⟩
    have := hc.mp ⟨by exact dn30 0x3efb6080d82bcd076040 (by k_ne) h1 q1, q2⟩
    rcases ht with t | t | t
    · exact dn50 0x3efbcdc40f60ef342dc007606f340 (by k_ne) q1 t.1
    · rw [t] at q1; dsimp only at q1; (first | lia | omega)
    · exact ⟨t.2, this.2⟩
  · rintro ⟨q1, q2⟩
    have := hc.mpr ⟨by exact dn30 0x3efb6080d82bcd076040 (by k_ne) h3 q1, q2⟩
    rcases ht with t | t | t
    · exact dn50 0x3efbcdc40f60ef342dc007606f340 (by k_ne) q1 t.2
    · rw [t] at q1; dsimp only at q1; (first | lia | omega)
    · exact ⟨t.1, this.2⟩
noncomputable def BoxRun (x y : Str) (K : List (Nat × Nat)) (a b : Nat) (more : List Quad) : Prop :=
  ∀ qs k outs, QRun x y k qs outs → ∃ (k' : Nat) (bn cn : List NTrip), QRun x y (k' + k) (qs ++ more) (bn.map cst ++ outs) ∧ k' ≤ 2 * (Kb K a b).length + 1 ∧ cn.Perm bn ∧ cn.flatMap expand = Kb K a b ∧ ∀ b' ∈ cn, 0 < b'.2.2
theorem BoxRun.none {x y : Str} {K : List (Nat × Nat)} {a b : Nat} (h : Kb K a b = []) : BoxRun x y K a b [] := fun qs k outs hr =>
  ⟨0, [], [], by simpa using hr, Nat.zero_le _, List.Perm.refl _, by rw [h]; rfl, fun _ h => nomatch h⟩
theorem run_box {x y : Str} {K : List (Nat × Nat)} (hK : Kp x y K) : ∀ (m : Nat) (q : Quad), Good x y K q → (Kb K q.1 q.2.1).length ≤ m → BoxRun x y K q.1 q.2.1 [q] := by
  intro m
  induction m with
  | zero =>
    intro q hq hm qs k outs hr
    rcases flm_good hK hq with ⟨hf, hn⟩ | ⟨i, j, n, hf, hin⟩
    · exact ⟨1, [], [], by rw [Nat.add_comm]; exact .skip hf hr, by (first | lia | omega), List.Perm.refl _, by rw [hn]; rfl, fun _ h => nomatch h⟩
    · exfalso
      have h0 := hin 0 (Nat.succ_pos _)
      have : (i + 0, j + 0) ∈ Kb K q.1 q.2.1 := mem_Kb.mpr ⟨h0, by have := hf.g1; dsimp only; exact dn20 0x3edaf301036040 (by k_ne) this, by have := hf.g2; dsimp only; exact dn30 0x3edc2bcc0360afbcd040 (by k_ne) this⟩
      rw [List.length_eq_zero_iff.mp (Nat.le_zero.mp hm)] at this
      cases this
  | succ m ih =>
    intro q hq hm qs k outs hr
    rcases flm_good hK hq with ⟨hf, hn⟩ | ⟨i, j, n, hf, hin⟩
    · exact ⟨1, [], [], by rw [Nat.add_comm]; exact .skip hf hr, by (first | lia | omega), List.Perm.refl _, by rw [hn]; rfl, fun _ h => nomatch h⟩
    · obtain ⟨a, b, c, d⟩ := q
      have g1 := hf.g1
      have g2 := hf.g2
      have g3 := hf.g3
      have g4 := hf.g4
      dsimp only at g1 g2 g3 g4 hm
      have hsp := Kb_split hK g1 g2 hin
      have hlen := congrArg List.length hsp
      rw [List.length_append, List.length_append] at hlen
      have hel : (expand (i, j, n + 1)).length = n + 1 := by unfold expand; simp
      rw [hel] at hlen
      have hi0 : (i, j) ∈ K := hin 0 (Nat.succ_pos _)
      have hiL : (i + n, j + n) ∈ K := hin n (Nat.lt_succ_self _)
      have gl : Good x y K (a, i, c, j) := good_left hK hq g1 (by exact dn30 0x3ed820360afbcd040 (by k_ne) g2) g3 (by exact dn30 0x3ed820360afbcd040 (by k_ne) g4) hi0
      have gr : Good x y K (i + (n + 1), b, j + (n + 1), d) := good_right hK hq (show a ≤ i + n by exact dn30 0x3edaf081036040 (by k_ne) g1) (show i + n + 1 ≤ b by exact dn30 0x3ed82bcdbc10360afbcd040 (by k_ne) g2) (show c ≤ j + n by exact dn30 0x3edaf081036040 (by k_ne) g3) (show j + n + 1 ≤ d by exact dn30 0x3ed82bcdbc10360afbcd040 (by k_ne) g4) hiL
      have rl : BoxRun x y K a i (pushL (a, b, c, d) i j) := by
        unfold pushL
        by_cases h : a < i ∧ c < j
        · rw [if_pos h]
          exact ih (a, i, c, j) gl (by dsimp only; exact dn50 0x3efb6042e2f12fbcd0c2036bcd040 (by k_ne) hm hlen)
        · rw [if_neg h]
          refine .none (List.eq_nil_iff_forall_not_mem.mpr fun p hp => ?_)
          obtain ⟨p1, p2, p3⟩ := mem_Kb.mp hp
          have := (gl.cons p p1).mp ⟨p2, p3⟩
          dsimp only at this
          exact h ⟨by exact dn30 0x3efb7080dc2076040 (by k_ne) p2 p3, by exact dn30 0x3efb7080dc2076040 (by k_ne) this.1 this.2⟩
      have rr : BoxRun x y K (i + (n + 1)) b (pushR (a, b, c, d) i j (n + 1)) := by
        unfold pushR
        by_cases h : i + (n + 1) < b ∧ j + (n + 1) < d
        · rw [if_pos h]
          exact ih (i + (n + 1), b, j + (n + 1), d) gr (by dsimp only; exact dn50 0x3efb6044e2f12fbcd0c2036bcd040 (by k_ne) hm hlen)
        · rw [if_neg h]
          refine .none (List.eq_nil_iff_forall_not_mem.mpr fun p hp => ?_)
          obtain ⟨p1, p2, p3⟩ := mem_Kb.mp hp
          have := (gr.cons p p1).mp ⟨p2, p3⟩
          dsimp only at this
          exact h ⟨by exact dn40 0x3efb70efbcd040dc30b60afbcd040 (by k_ne) p2 p3, by exact dn40 0x3efb70efbcd040dc30b60afbcd040 (by k_ne) this.1 this.2⟩
      obtain ⟨k1, bn1, cn1, r1, l1, p1, f1, n1⟩ := rl qs k outs hr
      obtain ⟨k2, bn2, cn2, r2, l2, p2, f2, n2⟩ := rr _ _ _ r1
      refine ⟨k2 + k1 + 1, (i, j, n + 1) :: (bn2 ++ bn1), cn1 ++ (i, j, n + 1) :: cn2, ?_, ?_, ?_, ?_, ?_⟩
      · have := QRun.take hf r2
        rw [List.map_cons, List.map_append, List.cons_append, List.append_assoc, show k2 + k1 + 1 + k = k2 + (k1 + k) + 1 by exact dn30 0x38bcdbef08102f0af36f040 (by k_ne)]
        exact this
      · dsimp only
        exact dn60 0x3efbedaf37100ebcdbc4176bcdc43385daf37104e138bc3bef342040 (by k_ne) hlen l1 l2
      · refine List.perm_middle.trans (.cons _ ?_)
        exact (List.perm_append_comm.trans (p2.append p1))
      · rw [List.flatMap_append, List.flatMap_cons, f1, f2, hsp, List.append_assoc]
      · intro b' hb
        rcases List.mem_append.mp hb with hb | hb
        · exact n1 b' hb
        · rcases List.mem_cons.mp hb with rfl | hb
          · exact Nat.succ_pos _
          · exact n2 b' hb
theorem cn_sorted {x y : Str} {K : List (Nat × Nat)} (hK : Kp x y K) : ∀ (cn : List NTrip) (K' : List (Nat × Nat)), cn.flatMap expand = K' → K'.Pairwise (fun a b => a.1 < b.1) → (∀ b ∈ cn, 0 < b.2.2) → cn.Pairwise fun a b => a.1 < b.1
  | [], _, _, _, _ => .nil
  | b :: cn, K', e, hs, hn => by
    subst e
    rw [List.flatMap_cons, List.pairwise_append] at hs
    refine List.pairwise_cons.mpr ⟨fun c hc => ?_, cn_sorted hK cn _ rfl hs.2.1 fun b hb => hn b (.tail _ hb)⟩
    have h1 : (b.1 + 0, b.2.1 + 0) ∈ expand b := mem_expand.mpr ⟨0, hn b (.head _), rfl⟩
    have h2 : (c.1 + 0, c.2.1 + 0) ∈ cn.flatMap expand := List.mem_flatMap.mpr ⟨c, hc, mem_expand.mpr ⟨0, hn c (.tail _ hc), rfl⟩⟩
    exact hs.2.2 _ h1 _ h2
theorem Kb_all {x y : Str} {K : List (Nat × Nat)} (hK : Kp x y K) : Kb K 0 x.length = K := by
  unfold Kb
  rw [List.filter_eq_self]
  intro p hp
  have := (hK.bnd p hp).1
  simp [this]
theorem cn_le : ∀ (cn : List NTrip), (∀ b ∈ cn, 0 < b.2.2) → cn.length ≤ (cn.flatMap expand).length
  | [], _ => Nat.le_refl _
  | b :: cn, h => by
    have h1 := cn_le cn fun b hb => h b (.tail _ hb)
    have h2 := h b (.head _)
    have h3 : (expand b).length = b.2.2 := by unfold expand; simp
    rw [List.flatMap_cons, List.length_append, List.length_cons, h3]
    exact dn30 0x3efb6bc10af340dc2336040 (by k_ne) h1 h2
theorem run_all {x y : Str} {K : List (Nat × Nat)} (hK : Kp x y K) : ∃ (k : Nat) (bs : List Trip) (cn : List NTrip), QRun x y k [(0, x.length, 0, y.length)] bs ∧ k ≤ 2 * K.length + 1 ∧ (cn.map cst).Perm bs ∧ ((cn.map cst).Pairwise fun a b => a.1 < b.1) ∧ cn.flatMap expand = K ∧ (∀ b ∈ cn, 0 < b.2.2) ∧ bs.length ≤ K.length := by
  have g : Good x y K (0, x.length, 0, y.length) := ⟨Nat.zero_le _, Nat.le_refl _, Nat.zero_le _, Nat.le_refl _, fun p hp => by
    have := hK.bnd p hp
    dsimp only
    exact ⟨fun _ => ⟨Nat.zero_le _, this.2⟩, fun _ => ⟨Nat.zero_le _, this.1⟩⟩⟩
  obtain ⟨k, bn, cn, r, l, p, f, n⟩ := run_box hK _ _ g (Nat.le_refl _) [] 0 [] .nil
  dsimp only at l f
  rw [Kb_all hK] at l f
  refine ⟨k, bn.map cst, cn, by simpa using r, l, p.map _, ?_, f, n, ?_⟩
  · rw [List.pairwise_map]
    exact (cn_sorted hK cn K f hK.mono1 n).imp fun h => by unfold cst; dsimp only; exact dn20 0x3eeb4074037040 (by k_ne) h
  · rw [List.length_map, ← p.length_eq, ← f]
    exact cn_le cn n
end Mine
end
section
open PySem PySem.W PyProof.Rows
namespace Mine
noncomputable def gapF (c : List Op5 × Int × Int) (a b : Int) : List Op5 :=
  if c.2.1 < a ∧ c.2.2 < b then c.1 ++ [(Str.ofString "replace", c.2.1, a, c.2.2, b)] else if c.2.1 < a then c.1 ++ [(Str.ofString "delete", c.2.1, a, c.2.2, b)] else if c.2.2 < b then c.1 ++ [(Str.ofString "insert", c.2.1, a, c.2.2, b)] else c.1
theorem oc_eq (c : List Op5 × Int × Int) (a b k : Int) : ocStep c (a, b, k) = (if k = 0 then gapF c a b else gapF c a b ++ [(Str.ofString "equal", a, a + k, b, b + k)], a + k, b + k) := rfl
theorem cd_eq (n : Int) (c : List Op5 × Int × Int) (a b : Int) : cdStep n c (a, b) = (if a < n then (match (gapF c a b).getLast? with
    | some o => if (o.1 == Str.ofString "equal") = true then (gapF c a b).dropLast ++ [(Str.ofString "equal", o.2.1, a + 1, o.2.2.2.1, b + 1)] else gapF c a b ++ [(Str.ofString "equal", a, a + 1, b, b + 1)]
    | none => gapF c a b ++ [(Str.ofString "equal", a, a + 1, b, b + 1)]) else gapF c a b, a + 1, b + 1) := rfl
theorem ne_rep : (Str.ofString "replace" == Str.ofString "equal") = false := by decide
theorem ne_del : (Str.ofString "delete" == Str.ofString "equal") = false := by decide
theorem ne_ins : (Str.ofString "insert" == Str.ofString "equal") = false := by decide
theorem cd_ext (n : Int) (s : List Op5 × Int × Int) (i j k : Int) (hk : 0 < k) (h : i + k < n) : cdStep n (ocStep s (i, j, k)) (i + k, j + k) = ocStep s (i, j, k + 1) := by
  rw [oc_eq, oc_eq, if_neg (by exact dn01 0xfbfecc03a00c (by k_ne) hk), if_neg (by exact dn01 0xfbfeccbcd03a00c (by k_ne) hk), cd_eq]
  have e : gapF (gapF s i j ++ [(Str.ofString "equal", i, i + k, j, j + k)], i + k, j + k) (i + k) (j + k) = gapF s i j ++ [(Str.ofString "equal", i, i + k, j, j + k)] := by
    unfold gapF
    dsimp only
    rw [if_neg (by exact dn03 0xffceaf042bc10babc102f040 (by k_ne)), if_neg (by exact dn02 0xffabc102f040 (by k_ne)), if_neg (by exact dn02 0xffabc102f040 (by k_ne))]
  rw [e, if_pos h, List.getLast?_concat]
  dsimp only
  rw [if_pos (by simp), List.dropLast_concat, show i + k + 1 = i + (k + 1) by exact dn02 0x3bbef34102f36f040 (by k_ne), show j + k + 1 = j + (k + 1) by exact dn02 0x3bbef34102f36f040 (by k_ne)]
theorem cd_new (n : Int) (c : List Op5 × Int × Int) (a b : Int) (h : a < n) (hc : c.2.1 < a ∨ c.2.2 < b ∨ c.1 = []) : cdStep n c (a, b) = ocStep c (a, b, 1) := by
  rw [oc_eq, cd_eq, if_pos h, if_neg (by decide)]
  refine Prod.ext ?_ rfl
  dsimp only
  have key : ∀ x : Op5, (x.1 == Str.ofString "equal") = false → gapF c a b = c.1 ++ [x] → (match (gapF c a b).getLast? with
    | some o => if (o.1 == Str.ofString "equal") = true then (gapF c a b).dropLast ++ [(Str.ofString "equal", o.2.1, a + 1, o.2.2.2.1, b + 1)] else gapF c a b ++ [(Str.ofString "equal", a, a + 1, b, b + 1)]
    | none => gapF c a b ++ [(Str.ofString "equal", a, a + 1, b, b + 1)]) = gapF c a b ++ [(Str.ofString "equal", a, a + 1, b, b + 1)] := by
    intro x hx e
    rw [e, List.getLast?_concat]
    dsimp only
    rw [hx, if_neg (by decide)]
  by_cases h1 : c.2.1 < a ∧ c.2.2 < b
  · exact key _ ne_rep (by unfold gapF; rw [if_pos h1])
  · by_cases h2 : c.2.1 < a
    · exact key _ ne_del (by unfold gapF; rw [if_neg h1, if_pos h2])
    · by_cases h3 : c.2.2 < b
      · exact key _ ne_ins (by unfold gapF; rw [if_neg h1, if_neg h2, if_pos h3])
      · have h4 : c.1 = [] := by
          rcases hc with q | q | q
          · exact absurd q h2
          · exact absurd q h3
          · exact q
        have e : gapF c a b = [] := by unfold gapF; rw [if_neg h1, if_neg h2, if_neg h3, h4]
        rw [e]
        rfl
theorem cd_run (n : Int) (s : List Op5 × Int × Int) (i j : Int) : ∀ (m : Nat) (k : Int), 0 < k → i + k + m ≤ n → ((List.range m).map fun (t : Nat) => (i + k + (t : Int), j + k + (t : Int))).foldl (cdStep n) (ocStep s (i, j, k)) = ocStep s (i, j, k + m)
  | 0, k, _, _ => by simp
  | m + 1, k, hk, h => by
    rw [List.range_succ_eq_map, List.map_cons, List.foldl_cons, List.map_map]
    have e0 : (i + k + ((0 : Nat) : Int), j + k + ((0 : Nat) : Int)) = (i + k, j + k) := by simp
    rw [e0, cd_ext n s i j k hk (by exact dn13 0xfba0af040e42bf4bcd02f040 (by k_ne) h)]
    have e : (List.range m).map ((fun (t : Nat) => (i + k + (t : Int), j + k + (t : Int))) ∘ Nat.succ) = (List.range m).map fun (t : Nat) => (i + (k + 1) + (t : Int), j + (k + 1) + (t : Int)) := by
      refine List.map_congr_left fun t _ => ?_
      show (i + k + ((t + 1 : Nat) : Int), j + k + ((t + 1 : Nat) : Int)) = _
      rw [show i + k + ((t + 1 : Nat) : Int) = i + (k + 1) + (t : Int) by exact dn12 0x3bbf402fbcd040bf4bcd02f040 (by k_ne), show j + k + ((t + 1 : Nat) : Int) = j + (k + 1) + (t : Int) by exact dn12 0x3bbf402fbcd040bf4bcd02f040 (by k_ne)]
    rw [e, cd_run n s i j m (k + 1) (by exact dn01 0x3eeaf34033a00c (by k_ne) hk) (by exact dn13 0x3ee42bf402fbcd040e42bf4bcd02f040 (by k_ne) h), show k + 1 + (m : Int) = k + ((m + 1 : Nat) : Int) by exact dn11 0x3bbf4bcd000bf402f340 (by k_ne)]
noncomputable def castP (p : Nat × Nat) : Int × Int := ((p.1 : Int), (p.2 : Int))
theorem expand_cast (a b m : Nat) : (expand (a, b, m + 1)).map castP = ((a : Int), (b : Int)) :: (List.range m).map fun (t : Nat) => ((a : Int) + 1 + (t : Int), (b : Int) + 1 + (t : Int)) := by
  unfold expand
  dsimp only
  rw [List.range_succ_eq_map, List.map_cons, List.map_cons, List.map_map, List.map_map]
  refine List.cons_eq_cons.mpr ⟨by simp [castP], List.map_congr_left fun t _ => ?_⟩
  show (((a + (t + 1) : Nat) : Int), ((b + (t + 1) : Nat) : Int)) = _
  rw [show ((a + (t + 1) : Nat) : Int) = (a : Int) + 1 + t by exact dn20 0xeefd01bcdd00d2fbcd040 (by k_ne), show ((b + (t + 1) : Nat) : Int) = (b : Int) + 1 + t by exact dn20 0xeefd01bcdd00d2fbcd040 (by k_ne)]
theorem expand_cast0 (i j : Int) (a b m : Nat) (k : Int) (ha : (a : Int) = i + k) (hb : (b : Int) = j + k) : (expand (a, b, m)).map castP = (List.range m).map fun (t : Nat) => (i + k + (t : Int), j + k + (t : Int)) := by
  unfold expand
  dsimp only
  rw [List.map_map]
  refine List.map_congr_left fun t _ => ?_
  show (((a + t : Nat) : Int), ((b + t : Nat) : Int)) = _
  rw [show ((a + t : Nat) : Int) = i + k + t by exact dn22 0xfbbbf406f040d2f040eef040d00 (by k_ne) ha, show ((b + t : Nat) : Int) = j + k + t by exact dn22 0xfbbbf406f040d2f040eef040d00 (by k_ne) hb]
noncomputable def MgInv (s : MgS) (c : List Op5 × Int × Int) : Prop :=
  (s = ([], 0, 0, 0) ∧ c = ([], 0, 0)) ∨ (0 < s.2.2.2 ∧ c = ocStep (ocF s.1) (s.2.1, s.2.2.1, s.2.2.2))
theorem ocF_snoc (l : List Trip) (b : Trip) : ocF (l ++ [b]) = ocStep (ocF l) b := by unfold ocF; rw [List.foldl_append]; rfl
theorem mg_block (n : Int) (s : MgS) (c : List Op5 × Int × Int) (b : NTrip) (hb : 0 < b.2.2) (hn : (b.1 : Int) + b.2.2 ≤ n) (hi : s.2.1 + s.2.2.2 ≤ b.1 ∧ s.2.2.1 + s.2.2.2 ≤ b.2.1) (h : MgInv s c) :
    MgInv (mgStep s (cst b)) (((expand b).map castP).foldl (cdStep n) c) ∧ (mgStep s (cst b)).2.1 + (mgStep s (cst b)).2.2.2 = (b.1 : Int) + b.2.2 ∧ (mgStep s (cst b)).2.2.1 + (mgStep s (cst b)).2.2.2 = (b.2.1 : Int) + b.2.2 := by
  obtain ⟨a2, b2, k2⟩ := b
  obtain ⟨na, i1, j1, k1⟩ := s
  dsimp only at hb hn hi
  obtain ⟨m, rfl⟩ : ∃ m, k2 = m + 1 := ⟨k2 - 1, by exact dn10 0x3ee2f37034003700c (by k_ne) hb⟩
  unfold mgStep cst
  dsimp only
  by_cases hc : i1 + k1 = (a2 : Int) ∧ j1 + k1 = (b2 : Int)
  · rw [if_pos hc]
    refine ⟨?_, by dsimp only; exact dn22 0x3eeefd2f341d00befd2f341040ef402f040 (by k_ne) hc.1, by dsimp only; exact dn22 0x3eeefd2f341d00befd2f341040ef402f040 (by k_ne) hc.2⟩
    rcases h with ⟨h1, rfl⟩ | ⟨h1, rfl⟩
    · cases h1
      right
      refine ⟨by dsimp only; exact dn10 0xeafd2f34030c (by k_ne), ?_⟩
      rw [expand_cast, List.foldl_cons, cd_new n _ _ _ (by exact dn21 0xfba03403902fd2f341d00 (by k_ne) hn) (.inr (.inr rfl))]
      have e1 : (a2 : Int) = 0 := by (first | lia | omega)
      have e2 : (b2 : Int) = 0 := by (first | lia | omega)
      rw [e1, e2]
      have := cd_run n (([], 0, 0) : List Op5 × Int × Int) 0 0 m 1 (by (first | lia | omega)) (by exact dn21 0xfb902fd01bcd33902fd2f341d00 (by k_ne) hn)
      rw [this]
      dsimp only
      rw [show (0 : Int) + ((m + 1 : Nat) : Int) = 1 + (m : Int) by exact dn10 0x3bbf400dbf4bcd00c (by k_ne)]
      rfl
    · right
      dsimp only at h1 ⊢
      refine ⟨by exact dn11 0xfbabf4bcd00033a00c (by k_ne) h1, ?_⟩
      rw [expand_cast0 i1 j1 a2 b2 (m + 1) k1 hc.1.symm hc.2.symm, cd_run n _ i1 j1 (m + 1) k1 h1 (by exact dn23 0x3efb902fd2f341bc207bd00bc207902fd2f341d00 (by k_ne) hn hc.1)]
  · rw [if_neg hc]
    refine ⟨?_, by dsimp only, by dsimp only⟩
    right
    refine ⟨by dsimp only; exact dn10 0xeb4bcd00c (by k_ne), ?_⟩
    dsimp only
    have fin : ∀ c' : List Op5 × Int × Int, (c'.2.1 < (a2 : Int) ∨ c'.2.2 < (b2 : Int) ∨ c'.1 = []) → ((expand (a2, b2, m + 1)).map castP).foldl (cdStep n) c' = ocStep c' ((a2 : Int), (b2 : Int), ((m + 1 : Nat) : Int)) := by
      intro c' h'
      rw [expand_cast, List.foldl_cons, cd_new n _ _ _ (by exact dn21 0xfba03403902fd2f341d00 (by k_ne) hn) h', cd_run n c' a2 b2 m 1 (by (first | lia | omega)) (by exact dn21 0x3ee40bf406f37403902fd2f341d00 (by k_ne) hn), show (1 : Int) + (m : Int) = ((m + 1 : Nat) : Int) by exact dn10 0x3bd2f340bf400d (by k_ne)]
    rcases h with ⟨h1, rfl⟩ | ⟨h1, rfl⟩
    · cases h1
      rw [if_pos rfl, fin _ (.inr (.inr rfl))]
      rfl
    · dsimp only at h1 ⊢
      rw [if_neg (by exact dn01 0xfbfecc03a00c (by k_ne) h1), ocF_snoc, fin _ ?_]
      rw [oc_eq]
      dsimp only
      (first | lia | omega)
theorem mg_cd (n : Int) : ∀ (cn : List NTrip) (s : MgS) (c : List Op5 × Int × Int), MgInv s c → (cn.flatMap expand).Pairwise (fun a b => a.1 < b.1 ∧ a.2 < b.2) → (∀ p ∈ cn.flatMap expand, (p.1 : Int) < n) → (∀ b ∈ cn, 0 < b.2.2) → (∀ p ∈ cn.flatMap expand, s.2.1 + s.2.2.2 ≤ (p.1 : Int) ∧ s.2.2.1 + s.2.2.2 ≤ (p.2 : Int)) →
    MgInv ((cn.map cst).foldl mgStep s) (((cn.flatMap expand).map castP).foldl (cdStep n) c)
  | [], s, c, h, _, _, _, _ => h
  | b :: cn, s, c, h, hs, hn, hp, hr => by
    rw [List.flatMap_cons] at hs hn hr ⊢
    rw [List.map_append, List.foldl_append, List.map_cons, List.foldl_cons]
    have hs2 := List.pairwise_append.mp hs
    have hb := hp b (.head _)
    have hfirst : (b.1 + 0, b.2.1 + 0) ∈ expand b := mem_expand.mpr ⟨0, hb, rfl⟩
    have hlast : (b.1 + (b.2.2 - 1), b.2.1 + (b.2.2 - 1)) ∈ expand b := mem_expand.mpr ⟨b.2.2 - 1, by exact dn10 0x3edc0c0d03700c (by k_ne) hb, rfl⟩
    have h1 := hn _ (List.mem_append_left _ hlast)
    have h2 := hr _ (List.mem_append_left _ hfirst)
    dsimp only at h1 h2
    obtain ⟨m1, m2, m3⟩ := mg_block n s c b hb (by exact dn21 0xfb902fd01d00e80d2fc0d040 (by k_ne) h1) ⟨by exact dn12 0x3ee7402f040e74bcc02f040 (by k_ne) h2.1, by exact dn12 0x3ee7402f040e74bcc02f040 (by k_ne) h2.2⟩ h
    refine mg_cd n cn _ _ m1 hs2.2.1 (fun p q => hn p (List.mem_append_right _ q)) (fun b q => hp b (.tail _ q)) fun p q => ?_
    have h3 := hs2.2.2 _ hlast p q
    dsimp only at h3
    rw [m2, m3]
    exact dn50 0x3efbce7412fd01d03e740afd01d00dc4bf03410f70afc0d040 (by k_ne) h3.1 h3.2
theorem oc_end (n b : Int) (c : List Op5 × Int × Int) : (ocStep c (n, b, 0)).1 = (cdStep n c (n, b)).1 := by
  rw [oc_eq, cd_eq, if_pos rfl, if_neg (Int.lt_irrefl _)]
theorem mg_end {s : MgS} {c : List Op5 × Int × Int} (h : MgInv s c) (n b : Int) : (ocF (mgEnd s n b)).1 = (cdStep n c (n, b)).1 := by
  obtain ⟨na, i1, j1, k1⟩ := s
  unfold mgEnd
  rcases h with ⟨h1, rfl⟩ | ⟨h1, rfl⟩
  · cases h1
    rw [if_pos rfl, ocF_snoc]
    exact oc_end n b _
  · dsimp only at h1 ⊢
    rw [if_neg (by exact dn01 0xfbfecc03a00c (by k_ne) h1), ocF_snoc, ocF_snoc]
    exact oc_end n b _
theorem mg_len : ∀ (l : List Trip) (s : MgS), (l.foldl mgStep s).1.length ≤ s.1.length + l.length
  | [], s => Nat.le_refl _
  | b :: l, s => by
    rw [List.foldl_cons]
    refine Nat.le_trans (mg_len l _) ?_
    have : (mgStep s b).1.length ≤ s.1.length + 1 := by
      unfold mgStep
      split
      · exact Nat.le_succ _
      · dsimp only
        split
        · exact Nat.le_succ _
        · simp
    rw [List.length_cons]
    exact dn30 0x3edafbcd081bc2036bcd040 (by k_ne) this
theorem codes_same {x y : Str} {K : List (Nat × Nat)} (hK : Kp x y K) (hl : K.length ≤ 20) : ∃ (k : Nat) (bs cs ms : List Trip), k ≤ 1000 ∧ QRun x y k [(0, x.length, 0, y.length)] bs ∧ bs.length ≤ 60 ∧ cs.Perm bs ∧ (cs.Pairwise fun a b => a.1 < b.1) ∧ mgEnd (cs.foldl mgStep ([], 0, 0, 0)) x.length y.length = ms ∧ ms.length ≤ 64 ∧ (ocF ms).1 = (cdF (x.length : Int) (K.map castP ++ [((x.length : Int), (y.length : Int))])).1 := by
  obtain ⟨k, bs, cn, r, l, p, sx, f, nn, bl⟩ := run_all hK
  have h0 : MgInv ([], 0, 0, 0) ([], 0, 0) := .inl ⟨rfl, rfl⟩
  have inv := mg_cd (x.length : Int) cn _ _ h0 (by rw [f]; exact hK.mono) (fun p hp => by rw [f] at hp; have := (hK.bnd p hp).1; exact dn20 0x3eeb4074037040 (by k_ne) this) nn (fun p _ => by dsimp only; exact dn20 0x3ce7406f30ce7402f30c (by k_ne))
  rw [f] at inv
  refine ⟨k, bs, cn.map cst, _, by exact dn20 0x3efb63e8b01daf37100e076800 (by k_ne) hl l, r, by exact dn20 0x3efb603cb01d80076800 (by k_ne) hl bl, p, sx, rfl, ?_, ?_⟩
  · have h1 := mg_len (cn.map cst) ([], 0, 0, 0)
    have h2 := p.length_eq
    have h3 : ∀ s : MgS, (mgEnd s x.length y.length).length ≤ s.1.length + 2 := fun s => by
      unfold mgEnd
      split <;> simp
    have h4 := h3 ((cn.map cst).foldl mgStep ([], 0, 0, 0))
    rw [List.length_nil] at h1
    exact dn50 0x3efbefbed8102c136bce084e010f6bc3302d80076800 (by k_ne) hl bl h1 h2 h4
  · rw [mg_end inv, cdF_snoc]
    rfl
end Mine
end
section
open PySem PySem.W PyProof.Rows
namespace Mine
noncomputable def insL (ns : List Int) (i : Nat) : List Nat := (insF ns (i : Int)).cps.toList
noncomputable abbrev keptB (ns : List Int) (X : List Nat) (i : Nat) : Prop := i < X.length ∧ (X.getD i 0 = 61 ∨ ¬ (deedF ns (i : Int)).fmod 3 = 0)
noncomputable def stL (ns : List Int) (X : List Nat) : Nat → List Nat × List (Nat × Nat)
  | 0 => ([], [])
  | i + 1 => if keptB ns X i then ((stL ns X i).1 ++ insL ns i ++ [X.getD i 0], (stL ns X i).2 ++ [(i, ((stL ns X i).1 ++ insL ns i).length)]) else ((stL ns X i).1 ++ insL ns i, (stL ns X i).2)
theorem str_app (a b : Str) : (a ++ b).cps.toList = a.cps.toList ++ b.cps.toList := by
  show (a.cps ++ b.cps).toList = _
  simp
theorem str_len (a : Str) : a.length = a.cps.toList.length := by show a.cps.size = _; simp
theorem getD_toList (x : Str) (i : Nat) : x.cps.toList.getD i 0 = x.cps.getD i 0 := by
  rw [List.getD, Array.getElem?_toList, Array.getD_eq_getD_getElem?]
theorem eq_sign (c : Nat) : ((Str.mk #[c] == Str.ofString "=") = true) ↔ c = 61 := by
  rw [beq_iff_eq]
  constructor
  · intro h
    have h2 := congrArg (fun s : Str => s.cps.toList) h
    have e : (Str.ofString "=").cps.toList = [61] := by decide
    dsimp only at h2
    rw [e] at h2
    exact (List.cons.inj h2).1
  · rintro rfl; rfl
theorem stF_L (ns : List Int) (x : Str) : ∀ i, (stF ns x i).1.cps.toList = (stL ns x.cps.toList i).1 ∧ (stF ns x i).2 = (stL ns x.cps.toList i).2.map castP
  | 0 => ⟨rfl, rfl⟩
  | i + 1 => by
    obtain ⟨h1, h2⟩ := stF_L ns x i
    rw [stF_succ]
    unfold stStep
    show _ = (if keptB ns x.cps.toList i then _ else _ : List Nat × List (Nat × Nat)).1 ∧ _ = (if keptB ns x.cps.toList i then _ else _ : List Nat × List (Nat × Nat)).2.map castP
    have hl : x.length = x.cps.toList.length := str_len x
    by_cases c : i < x.length
    · have hit : Txt.item x ((i : Nat) : Int) = ⟨#[x.cps.getD i 0]⟩ := item_at rfl c
      rw [hit]
      by_cases k : x.cps.getD i 0 = 61 ∨ ¬ (deedF ns (i : Int)).fmod 3 = 0
      · have kb : keptB ns x.cps.toList i := ⟨by exact dn30 0x3efb7042dc00b8040 (by k_ne) hl c, by rw [getD_toList]; exact k⟩
        rw [if_pos kb, if_pos ⟨by exact dn20 0x3eeb4074037040 (by k_ne) c, by rw [eq_sign]; exact k⟩]
        dsimp only
        refine ⟨?_, ?_⟩
        · rw [str_app, str_app, h1, getD_toList]; rfl
        · rw [h2, List.map_append, str_len, str_app, h1]; rfl
      · have kb : ¬ keptB ns x.cps.toList i := fun h => k (by have := h.2; rw [getD_toList] at this; exact this)
        rw [if_neg kb, if_neg fun h => k (by have := h.2; rw [eq_sign] at this; exact this)]
        exact ⟨by rw [str_app, h1]; rfl, h2⟩
    · have kb : ¬ keptB ns x.cps.toList i := fun h => c (by have := h.1; exact dn30 0x3efb7002dc10b8040 (by k_ne) hl h.1)
      rw [if_neg kb, if_neg fun h => c (by have := h.1; exact dn20 0x3edc103ad01d00 (by k_ne) h.1)]
      exact ⟨by rw [str_app, h1]; rfl, h2⟩
noncomputable def insSet : List Nat := [33, 45, 95, 46]
theorem ins_set (ns : List Int) (i : Nat) : ∀ c ∈ insL ns i, c ∈ insSet := by
  have h := deed_rng ((i : Int) + (if ns = [] then 0 else ns.getD ((i : Int).fmod (ns.length : Int)).toNat 0))
  unfold insL insF deedF
  generalize ((i : Int) + (if ns = [] then 0 else ns.getD ((i : Int).fmod (ns.length : Int)).toNat 0)).fmod 6 = d at h
  obtain ⟨h0, h1⟩ := h
  have : d = 0 ∨ d = 1 ∨ d = 2 ∨ d = 3 ∨ d = 4 ∨ d = 5 := by exact dn01 0x3efbdf7df7ded103b400ecf03b380ecd03b300e9203900c (by k_ne) h0 h1
  rcases this with rfl | rfl | rfl | rfl | rfl | rfl <;> decide +kernel
structure SwL (X Y : List Nat) (i : Nat) (K : List (Nat × Nat)) : Prop where
  mono : K.Pairwise fun a b => a.1 < b.1 ∧ a.2 < b.2
  bnd : ∀ p ∈ K, p.1 < i ∧ p.1 < X.length ∧ p.2 < Y.length
  mat : ∀ p ∈ K, Y.getD p.2 0 = X.getD p.1 0
  pos : ∀ j, j < Y.length → Y.getD j 0 ∈ insSet ∨ ∃ k, (k, j) ∈ K
  eqk : ∀ k, k < i → k < X.length → X.getD k 0 = 61 → ∃ j, (k, j) ∈ K
theorem getD_app_left {A B : List Nat} {j : Nat} (h : j < A.length) : (A ++ B).getD j 0 = A.getD j 0 := by
  rw [List.getD, List.getElem?_append_left h]; rfl
theorem getD_app_right {A B : List Nat} {j : Nat} (h : A.length ≤ j) : (A ++ B).getD j 0 = B.getD (j - A.length) 0 := by
  rw [List.getD, List.getElem?_append_right h]; rfl
theorem getD_mem {A : List Nat} {j : Nat} (h : j < A.length) : A.getD j 0 ∈ A := by
  rw [List.getD, List.getElem?_eq_getElem h]
  exact List.getElem_mem h
theorem stL_sw (ns : List Int) (X : List Nat) : ∀ i, SwL X (stL ns X i).1 i (stL ns X i).2
  | 0 => ⟨.nil, (fun _ h => nomatch h), (fun _ h => nomatch h), (fun j h => absurd h (Nat.not_lt_zero _)), fun k h => absurd h (Nat.not_lt_zero _)⟩
  | i + 1 => by
    have ih := stL_sw ns X i
    show SwL X (if keptB ns X i then _ else _ : List Nat × List (Nat × Nat)).1 (i + 1) (if keptB ns X i then _ else _ : List Nat × List (Nat × Nat)).2
    generalize (stL ns X i).1 = Y at *
    generalize (stL ns X i).2 = K at *
    have base : SwL X (Y ++ insL ns i) i K := by
      refine ⟨ih.mono, fun p hp => ?_, fun p hp => ?_, fun j hj => ?_, ih.eqk⟩
      · have := ih.bnd p hp
        exact ⟨this.1, this.2.1, by rw [List.length_append]; exact dn30 0x3edef081037040 (by k_ne) this.2.2⟩
      · rw [getD_app_left (ih.bnd p hp).2.2]; exact ih.mat p hp
      · by_cases c : j < Y.length
        · rw [getD_app_left c]; exact ih.pos j c
        · rw [getD_app_right (by exact dn20 0xfb6001ff7040 (by k_ne) c)]
          rw [List.length_append] at hj
          exact .inl (ins_set ns i _ (getD_mem (by exact dn30 0xfbedc2c0103fdc1037bc2040 (by k_ne) hj c)))
    by_cases kb : keptB ns X i
    · rw [if_pos kb]
      generalize Y ++ insL ns i = Z at *
      have hi := kb.1
      refine ⟨List.pairwise_append.mpr ⟨base.mono, List.pairwise_singleton _ _, fun a ha b hb => ?_⟩, fun p hp => ?_, fun p hp => ?_, fun j hj => ?_, fun k hk hX he => ?_⟩
      · rw [List.mem_singleton.mp hb]
        have := base.bnd a ha
        exact ⟨this.1, this.2.2⟩
      · rw [List.length_append, List.length_singleton]
        rcases List.mem_append.mp hp with hp | hp
        · have := base.bnd p hp
          exact ⟨by exact dn20 0x3edef341037040 (by k_ne) this.1, this.2.1, by exact dn20 0x3edef341037040 (by k_ne) this.2.2⟩
        · rw [List.mem_singleton.mp hp]
          exact ⟨Nat.lt_succ_self _, hi, Nat.lt_succ_self _⟩
      · rcases List.mem_append.mp hp with hp | hp
        · rw [getD_app_left (base.bnd p hp).2.2]; exact base.mat p hp
        · rw [List.mem_singleton.mp hp]
          dsimp only
          rw [getD_app_right (Nat.le_refl _), Nat.sub_self]
          rfl
      · rw [List.length_append, List.length_singleton] at hj
        by_cases c : j < Z.length
        · rw [getD_app_left c]
          rcases base.pos j c with q | ⟨k, q⟩
          · exact .inl q
          · exact .inr ⟨k, List.mem_append_left _ q⟩
        · have : j = Z.length := by exact dn20 0xfbee0103fdc1037bcd040 (by k_ne) hj c
          subst this
          exact .inr ⟨i, List.mem_append_right _ (.head _)⟩
      · by_cases c : k < i
        · obtain ⟨j, q⟩ := base.eqk k c hX he
          exact ⟨j, List.mem_append_left _ q⟩
        · have : k = i := by exact dn20 0xfbee0103fdc1037bcd040 (by k_ne) hk c
          subst this
          exact ⟨_, List.mem_append_right _ (.head _)⟩
    · rw [if_neg kb]
      refine ⟨base.mono, fun p hp => ?_, base.mat, base.pos, fun k hk hX he => ?_⟩
      · have := base.bnd p hp
        exact ⟨by exact dn20 0x3edef341037040 (by k_ne) this.1, this.2⟩
      · by_cases c : k < i
        · exact base.eqk k c hX he
        · have : k = i := by exact dn20 0xfbee0103fdc1037bcd040 (by k_ne) hk c
          subst this
          exact absurd ⟨hX, .inl he⟩ kb
structure Cl (X : List Nat) : Prop where
  dup : ∀ i k, i < k → k < X.length → X.getD i 0 = X.getD k 0 → k = i + 1 ∧ k + 1 = X.length ∧ X.getD i 0 = 61
  ins : ∀ i, i < X.length → X.getD i 0 ∉ insSet
theorem kp_of {x y : Str} {K : List (Nat × Nat)} (hc : Cl x.cps.toList) (hs : SwL x.cps.toList y.cps.toList (x.length + 1) K) : Kp x y K := by
  have hxl := str_len x
  have hyl := str_len y
  have gx : ∀ i, x.cps.toList.getD i 0 = x.cps.getD i 0 := getD_toList x
  have gy : ∀ i, y.cps.toList.getD i 0 = y.cps.getD i 0 := getD_toList y
  have tri : ∀ {a b : Nat × Nat}, a ∈ K → b ∈ K → (a.1 < b.1 ∧ a.2 < b.2) ∨ a = b ∨ (b.1 < a.1 ∧ b.2 < a.2) := by
    intro a b ha hb
    obtain ⟨i, hi, rfl⟩ := List.getElem_of_mem ha
    obtain ⟨j, hj, rfl⟩ := List.getElem_of_mem hb
    have hw := List.pairwise_iff_getElem.mp hs.mono
    rcases Nat.lt_trichotomy i j with q | q | q
    · exact .inl (hw i j hi hj q)
    · subst q; exact .inr (.inl rfl)
    · exact .inr (.inr (hw j i hj hi q))
  have fnd : ∀ i j, i < x.length → MM x y i j → ∃ k, (k, j) ∈ K ∧ k < x.length ∧ x.cps.toList.getD k 0 = x.cps.toList.getD i 0 := by
    rintro i j hi ⟨hj, e⟩
    rcases hs.pos j (by exact dn30 0x3efb7042dc00b8040 (by k_ne) hyl hj) with q | ⟨k, q⟩
    · exfalso
      refine hc.ins i (by exact dn30 0x3efb7042dc00b8040 (by k_ne) hxl hi) ?_
      rw [gx, e, ← gy]
      exact q
    · refine ⟨k, q, by have := (hs.bnd _ q).2.1; exact dn30 0x3efb7002dc10b8040 (by k_ne) hxl this, ?_⟩
      have := hs.mat _ q
      dsimp only at this
      rw [← this, gx, gy, e]
  refine ⟨hs.mono, fun p hp => ?_, fun p hp => ?_, fun i j hi hM hn => ?_⟩
  · have := hs.bnd p hp
    exact dn60 0x3efbefbcdc2177004dc3177044e030b8040 (by k_ne) hxl hyl this.2.1 this.2.2
  · rw [← gx, ← gy]
    exact (hs.mat p hp).symm
  · obtain ⟨k, hk, hkl, e⟩ := fnd i j hi hM
    have hne : k ≠ i := fun q => hn (q ▸ hk)
    rcases Nat.lt_or_gt_of_ne hne with hlt | hlt
    · -- k < i: i is the last, k the one before
      obtain ⟨d1, d2, d3⟩ := hc.dup k i hlt (by exact dn30 0x3efb7042dc00b8040 (by k_ne) hxl hi) e
      obtain ⟨q, hq⟩ := hs.eqk i (by exact dn30 0x3efb7bcd002e01bcd0b8040 (by k_ne) hxl d2) (by exact dn20 0x3edc103806f340 (by k_ne) d2) (by rw [← e]; exact d3)
      have t1 := tri hk hq
      have hjq : j < q := by
        rcases t1 with t | t | t
        · exact t.2
        · have := congrArg Prod.fst t; dsimp only at this; (first | lia | omega)
        · have := t.1; dsimp only at this; exact dn40 0x3efb70c2dc1038bcd040 (by k_ne) d1 t.1
      refine ⟨?_, by (first | lia | omega), .inr ⟨k, hlt, hk⟩⟩
      rintro ⟨h1, h2, h3⟩
      obtain ⟨k2, m1, m2, m3⟩ := fnd (i - 1) (j - 1) (by exact dn30 0x3efb7030342e01bcd0b8040 (by k_ne) hxl d2) h3
      have hk2 : k2 = k ∨ k2 = i := by
        rw [show i - 1 = k by exact dn20 0x3ee01c0d038bcd040 (by k_ne) d1] at m3
        rcases Nat.lt_trichotomy k2 k with z | z | z
        · have := hc.dup k2 k z (by exact dn30 0x3efb7081e02bcd038bcd040 (by k_ne) d1 d2) m3; exact dn40 0x3efbef78003e010f80af341e02bcd038bcd040 (by k_ne) d1 d2 this.2.1
        · exact .inl z
        · have := hc.dup k k2 z (by exact dn30 0x3efb7042dc00b8040 (by k_ne) hxl m2) m3.symm; exact dn30 0x3efbde000b8042e2f3410b8bcd040 (by k_ne) d1 this.1
      rcases hk2 with rfl | rfl
      · rcases tri m1 hk with t | t | t
        · exact absurd t.1 (Nat.lt_irrefl _)
        · have := congrArg Prod.snd t; dsimp only at this; (first | lia | omega)
        · exact absurd t.1 (Nat.lt_irrefl _)
      · rcases tri m1 hq with t | t | t
        · exact absurd t.1 (Nat.lt_irrefl _)
        · have := congrArg Prod.snd t; dsimp only at this; (first | lia | omega)
        · exact absurd t.1 (Nat.lt_irrefl _)
    · -- i < k: k is the last, i the one before
      obtain ⟨d1, d2, d3⟩ := hc.dup i k hlt (by exact dn30 0x3efb7042dc00b8040 (by k_ne) hxl hkl) e.symm
      obtain ⟨p, hp⟩ := hs.eqk i (by exact dn40 0x3efbedef3400f806f342e2f3430b8040 (by k_ne) hxl d1 d2) (by exact dn30 0x3efb7081e02bcd038bcd040 (by k_ne) d1 d2) d3
      have t1 := tri hp hk
      have hpj : p < j := by
        rcases t1 with t | t | t
        · exact t.2
        · have := congrArg Prod.fst t; dsimp only at this; (first | lia | omega)
        · have := t.1; dsimp only at this; exact dn40 0x3efb70c2dc1038bcd040 (by k_ne) d1 t.1
      refine ⟨?_, ?_, .inl ⟨p, hpj, hp⟩⟩
      · rintro ⟨h1, h2, h3⟩
        obtain ⟨k2, m1, m2, m3⟩ := fnd (i - 1) (j - 1) (by exact dn40 0x3efbedc0c0d0f806f342e2f3430b8040 (by k_ne) hxl d1 d2) h3
        have hk2 : k2 = i - 1 := by
          rcases Nat.lt_trichotomy k2 (i - 1) with z | z | z
          · have := hc.dup k2 (i - 1) z (by exact dn30 0x3efb70b0341e02bcd038bcd040 (by k_ne) d1 d2) m3; exact dn50 0x3efbefb8c0d0c4e01bcdc0d0f806f342e2f3430b8040 (by k_ne) hxl d1 d2 this.2.1
          · exact z
          · have := hc.dup (i - 1) k2 z (by exact dn30 0x3efb7042dc00b8040 (by k_ne) hxl m2) m3.symm; exact dn40 0x3efbefbee303410f80af343e2f3703410f704ce02bcd038bcd040 (by k_ne) d1 d2 h1 this.1 this.2.1
        subst hk2
        rcases tri m1 hp with t | t | t
        · have := t.2; dsimp only at this; (first | lia | omega)
        · have := congrArg Prod.fst t; dsimp only at this; (first | lia | omega)
        · have := t.1; dsimp only at this; (first | lia | omega)
      · rintro ⟨h1, h2⟩
        obtain ⟨k2, m1, m2, m3⟩ := fnd (i + 1) (j + 1) (by exact dn40 0x3efbedc0bcd0f806f342e2f3430b8040 (by k_ne) hxl d1 d2) h2
        rw [show i + 1 = k by exact dn20 0x3ee00bcd078bcd040 (by k_ne) d1] at m3
        have hk2 : k2 = i ∨ k2 = k := by
          rcases Nat.lt_trichotomy k2 k with z | z | z
          · have := hc.dup k2 k z (by exact dn20 0x3edc103806f340 (by k_ne) d2) m3; exact .inl (by exact dn50 0x3efbee03138bcd102e2f3430b8040 (by k_ne) hxl d1 this.1)
          · exact .inr z
          · have := hc.dup k k2 z (by exact dn30 0x3efb7042dc00b8040 (by k_ne) hxl m2) m3.symm; exact dn40 0x3efbde000b80c2e01bcd0b806f340 (by k_ne) d2 this.2.1
        rcases hk2 with rfl | rfl
        · rcases tri m1 hp with t | t | t
          · exact absurd t.1 (Nat.lt_irrefl _)
          · have := congrArg Prod.snd t; dsimp only at this; (first | lia | omega)
          · exact absurd t.1 (Nat.lt_irrefl _)
        · rcases tri m1 hk with t | t | t
          · exact absurd t.1 (Nat.lt_irrefl _)
          · have := congrArg Prod.snd t; dsimp only at this; (first | lia | omega)
          · exact absurd t.1 (Nat.lt_irrefl _)
end Mine
end
section
open PySem PySem.W PyProof.Rows
namespace Mine
noncomputable def signsS : Str := Str.ofString "ABCDEFGHIJKLMNOPQRSTUVWXYZabcdefghijklmnopqrstuvwxyz0123456789+/"
noncomputable def tailT : List Str := [Str.ofString "", Str.ofString "+w==", Str.ofString "+/w="]
noncomputable def tailN (r : Nat) : List Int := if r = 0 then [] else if r = 1 then [62, 48] else [62, 63, 48]
noncomputable def rowS (ns : List Int) : Str := Txt.join (Str.ofString "") ((rowF ns).map fun k => Txt.item signsS k)
noncomputable def clS (ns : List Int) (r : Nat) : Str := rowS ns ++ tailT.getD r Str.empty
noncomputable def vsF (ns : List Int) (r : Nat) : List Int := rowF ns ++ tailN r
/-! the row of figures -/
theorem fm48 (a : Int) : 0 ≤ a.fmod 48 ∧ a.fmod 48 < 48 := ⟨Int.fmod_nonneg_of_pos _ (by decide), Int.fmod_lt_of_pos _ (by decide)⟩
noncomputable def RowOk (l : List Int) (n : Nat) : Prop := l.Nodup ∧ (∀ k ∈ l, (0 ≤ k ∧ k < 48) ∨ (50 ≤ k ∧ k < 54)) ∧ l.length ≤ 4 + n
theorem rowAcc_ok (xs : List Int) : RowOk (rowAcc xs) xs.length := by
  induction xs using snocInd with
  | h0 => exact ⟨by decide, by decide, by decide⟩
  | h1 l a ih =>
    obtain ⟨h1, h2, h3⟩ := ih
    rw [rowAcc_snoc, rowStep, List.length_append, List.length_singleton]
    by_cases c : ((rowAcc l).any fun y => y == a.fmod 48) = true
    · rw [if_pos c]; exact ⟨h1, h2, by exact dn20 0x3edafbcd050036bc1400 (by k_ne) h3⟩
    · rw [if_neg c]
      have hn : a.fmod 48 ∉ rowAcc l := fun h => c (List.any_eq_true.mpr ⟨_, h, by simp⟩)
      refine ⟨?_, ?_, by rw [List.length_append, List.length_singleton]; exact dn20 0x3edafbcd050bcd036bc1400 (by k_ne) h3⟩
      · rw [List.nodup_append]
        refine ⟨h1, by simp, fun x hx y hy e => ?_⟩
        rw [List.mem_singleton.mp hy] at e
        exact hn (e ▸ hx)
      · intro k hk
        rcases List.mem_append.mp hk with hk | hk
        · exact h2 k hk
        · rw [List.mem_singleton.mp hk]; exact .inl (fm48 a)
theorem rowF_ok (ns : List Int) : (rowF ns).Nodup ∧ (∀ k ∈ rowF ns, (0 ≤ k ∧ k < 48) ∨ (50 ≤ k ∧ k < 54)) ∧ (rowF ns).length ≤ 16 ∧ (rowF ns).length % 4 = 0 := by
  obtain ⟨h1, h2, h3⟩ := rowAcc_ok (ns.take 12)
  have h4 : (ns.take 12).length ≤ 12 := by rw [List.length_take]; (first | lia | omega)
  unfold rowF
  refine ⟨h1.sublist (List.take_sublist _ _), fun k hk => h2 k (List.mem_of_mem_take hk), ?_, ?_⟩
  · rw [List.length_take]; (first | lia | omega)
  · rw [List.length_take]; (first | lia | omega)
theorem row_rng (ns : List Int) : ∀ k ∈ rowF ns, 0 ≤ k ∧ k < 64 := fun k hk => by
  have := (rowF_ok ns).2.1 k hk
  exact dn01 0x3ef3a040b00e4033df3a036b00e40032b3ce80c2c03900c (by k_ne) this
theorem row_len (ns : List Int) : (rowF ns).length ≤ 16 := (rowF_ok ns).2.2.1
theorem tailN_in (r : Nat) : ∀ k ∈ tailN r, k = 62 ∨ k = 63 ∨ k = 48 := by
  intro k hk
  unfold tailN at hk
  split at hk
  · cases hk
  · split at hk
    · simp at hk; exact dn01 0x3ef7dec0c2c03b03fb00ec0fac03dec0c2c03b03eb00 (by k_ne) hk
    · simp at hk; exact dn01 0x3ef7dec0c2c03b03fb00ec0fac03df7b030b00ec0fec03b03eb00 (by k_ne) hk
theorem tailN_le (r : Nat) : (tailN r).length ≤ 3 := by
  unfold tailN
  split
  · decide
  · split <;> decide
theorem tailN_nodup (r : Nat) : (tailN r).Nodup := by
  unfold tailN
  split
  · decide
  · split <;> decide
theorem vs_len (ns : List Int) (r : Nat) : (vsF ns r).length ≤ 20 := by
  have h1 := row_len ns
  have h2 := tailN_le r
  unfold vsF
  rw [List.length_append]; exact dn20 0x3efb682f040d8f076700 (by k_ne) h1 h2
theorem vs_rng (ns : List Int) (r : Nat) : ∀ f ∈ vsF ns r, 0 ≤ f ∧ f < 64 := fun f hf => by
  rcases List.mem_append.mp hf with h | h
  · exact row_rng ns f h
  · have := tailN_in r f h; exact dn01 0x3ef3a040b00e4033df7b030b00ec0fec03b03eb00 (by k_ne) this
theorem vs_nodup (ns : List Int) (r : Nat) : (vsF ns r).Nodup := by
  unfold vsF
  rw [List.nodup_append]
  refine ⟨(rowF_ok ns).1, tailN_nodup r, fun x hx y hy e => ?_⟩
  have h1 := (rowF_ok ns).2.1 x hx
  have h2 := tailN_in r y hy
  exact dn02 0xfbeffdf7b030b01ec0fec07b03eb01f7ce80dac039000cacf3a030b00e4033b040 (by k_ne) e h1 h2
theorem oct_size {vs : List Int} (h : vs.length ≤ 20) : (octF vs).size ≤ 15 := by
  unfold octF
  rw [List.size_toArray, List.length_map, octN_eq, dig_len]
  exact dn10 0x3ed9bc94c404b6800 (by k_ne) h
/-! the writing as a list of signs -/
theorem join_cps : ∀ l : List Str, (Txt.join (Str.ofString "") l).cps.toList = l.flatMap fun s => s.cps.toList := by
  intro l
  show (Builtin.Str.glued (Str.ofString "") l).cps.toList = _
  rw [StrLaws.glued_eq_join]
  induction l with
  | nil => rfl
  | cons a r ih =>
    cases r with
    | nil => simp [Str.join]
    | cons b t =>
      show (a ++ Str.ofString "" ++ Str.join (Str.ofString "") (b :: t)).cps.toList = _
      rw [str_app, str_app, ih]
      have e : (Str.ofString "").cps.toList = [] := by decide
      rw [e, List.append_nil]; rfl
theorem sg_tab : ((List.range 64).all fun k => signsS.cps.getD k 0 == (b64c ((k : Nat) : Int)).toNat) = true := by decide +kernel
theorem sg_size : signsS.cps.size = 64 := by decide +kernel
theorem item_sg {k : Int} (h0 : 0 ≤ k) (h1 : k < 64) : Txt.item signsS k = ⟨#[(b64c k).toNat]⟩ := by
  have hl : k < (signsS.length : Int) := by show k < (signsS.cps.size : Int); rw [sg_size]; exact h1
  have e : Txt.item signsS k = ⟨#[signsS.cps.getD k.toNat 0]⟩ := PySem.W.item_meets ⟨h0, hl⟩
  have h := List.all_eq_true.mp sg_tab k.toNat (List.mem_range.mpr (by (first | lia | omega)))
  have h' : signsS.cps.getD k.toNat 0 = (b64c ((k.toNat : Nat) : Int)).toNat := eq_of_beq h
  rw [e, h', show ((k.toNat : Nat) : Int) = k by (first | lia | omega)]
noncomputable def padC (r : Nat) : List Nat := if r = 0 then [] else if r = 1 then [61, 61] else [61]
noncomputable def letC (vs : List Int) : List Nat := vs.map fun k => (b64c k).toNat
theorem tail_cps {r : Nat} (hr : r < 3) : (tailT.getD r Str.empty).cps.toList = letC (tailN r) ++ padC r := by
  have h : ∀ r, r < 3 → (tailT.getD r Str.empty).cps.toList = letC (tailN r) ++ padC r := by decide +kernel
  exact h r hr
theorem flat_one {α : Type} (f : α → Nat) (l : List α) : (l.flatMap fun a => [f a]) = l.map f := by
  induction l with
  | nil => rfl
  | cons a t ih => rw [List.flatMap_cons, ih]; rfl
theorem rowS_cps (ns : List Int) : (rowS ns).cps.toList = letC (rowF ns) := by
  unfold rowS
  rw [join_cps, List.flatMap_map]
  have : ∀ l : List Int, (∀ k ∈ l, 0 ≤ k ∧ k < 64) → (l.flatMap fun k => (Txt.item signsS k).cps.toList) = letC l := by
    intro l
    induction l with
    | nil => intro _; rfl
    | cons a t ih =>
      intro h
      rw [List.flatMap_cons, ih fun k hk => h k (.tail _ hk), item_sg (h a (.head _)).1 (h a (.head _)).2]
      rfl
  exact this _ (row_rng ns)
theorem cl_cps (ns : List Int) {r : Nat} (hr : r < 3) : (clS ns r).cps.toList = letC (vsF ns r) ++ padC r := by
  unfold clS
  rw [str_app, rowS_cps, tail_cps hr, ← List.append_assoc]
  unfold vsF letC
  rw [List.map_append]
theorem padC_in (r : Nat) : ∀ c ∈ padC r, c = 61 := by
  intro c hc
  unfold padC at hc
  split at hc
  · cases hc
  · split at hc
    · simpa using hc
    · simpa using hc
theorem padC_le (r : Nat) : (padC r).length ≤ 2 := by
  unfold padC
  split
  · decide
  · split <;> decide
theorem cl_sign (ns : List Int) {r : Nat} (hr : r < 3) : ∀ c ∈ (clS ns r).cps.toList, c = 61 ∨ ∃ v : Nat, v < 64 ∧ c = (b64c v).toNat := by
  rw [cl_cps ns hr]
  intro c hc
  rcases List.mem_append.mp hc with h | h
  · obtain ⟨k, hk, rfl⟩ := List.mem_map.mp h
    have := vs_rng ns r k hk
    exact .inr ⟨k.toNat, by (first | lia | omega), by rw [show ((k.toNat : Nat) : Int) = k by (first | lia | omega)]⟩
  · exact .inl (padC_in r c h)
theorem cl_asc (ns : List Int) {r : Nat} (hr : r < 3) : ∀ c ∈ (clS ns r).cps.toList, c < 128 := fun c hc => by
  rcases cl_sign ns hr c hc with rfl | ⟨v, hv, rfl⟩
  · decide
  · have := (b64v_c (v := (v : Int)) (by exact dn10 0xe7400c (by k_ne)) (by exact dn10 0xfba040b34037040b00 (by k_ne) hv)).2.2
    (first | lia | omega)
theorem rowS_len (ns : List Int) : (rowS ns).length ≤ 16 := by
  rw [str_len, rowS_cps]
  unfold letC
  rw [List.length_map]
  exact row_len ns
theorem tail_len (r : Nat) : (tailT.getD r Str.empty).length ≤ 4 := by
  match r with
  | 0 => decide +kernel
  | 1 => decide +kernel
  | 2 => decide +kernel
  | n + 3 => exact Nat.zero_le _
theorem cl_len (ns : List Int) {r : Nat} (_hr : r < 3) : (clS ns r).length ≤ 20 := by
  have h1 := rowS_len ns
  have h2 := tail_len r
  rw [str_len] at h1 h2 ⊢
  unfold clS
  rw [str_app, List.length_append]
  exact dn20 0x3efb682f040d90076700 (by k_ne) h1 h2
theorem cl_int (ns : List Int) {r : Nat} (hr : r < 3) : ((clS ns r).cps.toList.map fun c => ((c : Nat) : Int)) = (vsF ns r).map b64c ++ (padC r).map fun c => ((c : Nat) : Int) := by
  rw [cl_cps ns hr, List.map_append]
  congr 1
  unfold letC
  rw [List.map_map]
  refine List.map_congr_left fun k hk => ?_
  have h := vs_rng ns r k hk
  have := (b64v_c h.1 h.2).2.2.1
  show (((b64c k).toNat : Nat) : Int) = b64c k
  (first | lia | omega)
theorem enc_cl (ns : List Int) {r : Nat} (hr : r < 3) : encF (octF (vsF ns r)) = bytF (clS ns r) := by
  unfold encF bytF
  rw [bInts_octF, cl_int ns hr]
  have hl := (rowF_ok ns).2.2.2
  have hv := row_rng ns
  have key : encT (encAcc (octN (vsF ns r))) = (vsF ns r).map b64c ++ (padC r).map fun c => ((c : Nat) : Int) := by
    match r, hr with
    | 0, _ => exact (congrArg (fun l => encT (encAcc (octN l))) (List.append_nil _)).trans ((enc_t0 hl hv).trans (by show _ = List.map b64c (rowF ns ++ []) ++ []; rw [List.append_nil, List.append_nil]))
    | 1, _ => exact enc_t1 hl hv
    | 2, _ => exact enc_t2 hl hv
  rw [key]
theorem rd_cl (ns : List Int) {r : Nat} (hr : r < 3) : readF (clS ns r) true = some (octF (vsF ns r)) := by
  unfold readF
  rw [bInts_bytF _ (cl_asc ns hr), cl_int ns hr]
  have hl := (rowF_ok ns).2.2.2
  rw [read_strict]
  · congr 2
    rw [List.map_map]
    refine (List.map_congr_left (g := id) fun k hk => ?_).trans (List.map_id _)
    have h := vs_rng ns r k hk
    exact (b64v_c h.1 h.2).1
  · intro x hx
    obtain ⟨k, hk, rfl⟩ := List.mem_map.mp hx
    have h := vs_rng ns r k hk
    have h2 := b64v_c h.1 h.2
    exact ⟨h2.2.1, by rw [h2.1]; exact h.2⟩
  · rw [List.length_map]
    unfold vsF
    rw [List.length_append]
    match r, hr with
    | 0, _ => exact .inl ⟨rfl, by show ((rowF ns).length + 0) % 4 = 0; exact dn10 0x3ee0ccd0bcc038333400 (by k_ne) hl⟩
    | 1, _ => exact .inr (.inl ⟨rfl, by show ((rowF ns).length + 2) % 4 = 2; exact dn10 0x3ee0ecd0bce038333400 (by k_ne) hl⟩)
    | 2, _ => exact .inr (.inr ⟨rfl, by show ((rowF ns).length + 3) % 4 = 3; exact dn10 0x3ee0fcd0bcf038333400 (by k_ne) hl⟩)
/-! the strewn writing -/
noncomputable def leftF (x : Str) (K : List (Int × Int)) : List Int := (K.filter fun p => !(Txt.item x p.1 == Str.ofString "=")).map fun p => b64v ((((Txt.item x p.1).cps.getD 0 0 : Nat)) : Int)
theorem ins_le (sc : List Int) (i : Nat) : (insL sc i).length ≤ 2 := by
  have := ins_len sc (i : Int)
  rw [str_len] at this
  exact this
theorem stL_len (sc : List Int) (X : List Nat) : ∀ i, (stL sc X i).1.length ≤ 3 * i ∧ (stL sc X i).2.length ≤ i ∧ (stL sc X i).2.length ≤ X.length
  | 0 => ⟨Nat.le_refl _, Nat.le_refl _, Nat.zero_le _⟩
  | i + 1 => by
    obtain ⟨h1, h2, h3⟩ := stL_len sc X i
    have h4 := ins_le sc i
    show (if keptB sc X i then _ else _ : List Nat × List (Nat × Nat)).1.length ≤ _ ∧ (if keptB sc X i then _ else _ : List Nat × List (Nat × Nat)).2.length ≤ _ ∧ (if keptB sc X i then _ else _ : List Nat × List (Nat × Nat)).2.length ≤ _
    by_cases k : keptB sc X i
    · rw [if_pos k]
      have := k.1
      simp only [List.length_append, List.length_singleton]
      exact dn50 0x3efbefbcf3612f342daf341bcd0b6c6f3413ef36f0c0dc4076383d810b6c413c0 (by k_ne) h1 h2 h4 k.1
    · rw [if_neg k]
      simp only [List.length_append]
      exact dn50 0x3efbefbcf360c2daf3410b6c6f3413ef100d8e1360c2d810b6c413c0 (by k_ne) h1 h2 h3 h4
theorem st_len (sc : List Int) {x : Str} (h : x.length ≤ 20) : (stF sc x (x.length + 1)).1.length ≤ 64 := by
  rw [str_len, (stF_L sc x _).1]
  have := (stL_len sc x.cps.toList (x.length + 1)).1
  exact dn20 0x3efb6040b01db1bcd00f076800 (by k_ne) h this
theorem kd_len (sc : List Int) {x : Str} (h : x.length ≤ 20) : (stF sc x (x.length + 1)).2.length ≤ 20 := by
  rw [(stF_L sc x _).2, List.length_map]
  have := (stL_len sc x.cps.toList (x.length + 1)).2.2
  rw [← str_len] at this
  exact dn20 0x3efb6801d80076800 (by k_ne) h this
theorem kd_rng (sc : List Int) (x : Str) : ∀ p ∈ (stF sc x (x.length + 1)).2, 0 ≤ p.1 ∧ p.1 < x.length := by
  rw [(stF_L sc x _).2]
  intro p hp
  obtain ⟨q, hq, rfl⟩ := List.mem_map.mp hp
  have := ((stL_sw sc x.cps.toList (x.length + 1)).bnd q hq).2.1
  have hl := str_len x
  unfold castP
  dsimp only
  exact dn30 0xfbef3ad02d00e7400ce010b7040 (by k_ne) this hl
theorem stL_in (sc : List Int) (X : List Nat) : ∀ i, ∀ c ∈ (stL sc X i).1, c ∈ insSet ∨ c ∈ X
  | 0 => fun _ h => nomatch h
  | i + 1 => by
    have ih := stL_in sc X i
    show ∀ c ∈ (if keptB sc X i then _ else _ : List Nat × List (Nat × Nat)).1, _
    have base : ∀ c ∈ (stL sc X i).1 ++ insL sc i, c ∈ insSet ∨ c ∈ X := fun c hc => by
      rcases List.mem_append.mp hc with h | h
      · exact ih c h
      · exact .inl (ins_set sc i c h)
    by_cases k : keptB sc X i
    · rw [if_pos k]
      intro c hc
      rcases List.mem_append.mp hc with h | h
      · exact base c h
      · rw [List.mem_singleton.mp h]; exact .inr (getD_mem k.1)
    · rw [if_neg k]; exact base
theorem st_asc (sc : List Int) {x : Str} (h : ∀ c ∈ x.cps.toList, c < 128) : ∀ c ∈ (stF sc x (x.length + 1)).1.cps.toList, c < 128 := by
  rw [(stF_L sc x _).1]
  intro c hc
  rcases stL_in sc _ _ c hc with q | q
  · have : ∀ c ∈ insSet, c < 128 := by decide
    exact this c q
  · exact h c q
/-! the writing is clean -/
theorem letC_not {vs : List Int} (h : ∀ v ∈ vs, 0 ≤ v ∧ v < 64) : ∀ c ∈ letC vs, c ≠ 61 ∧ c ∉ insSet ∧ b64v (c : Int) < 64 := by
  intro c hc
  obtain ⟨k, hk, rfl⟩ := List.mem_map.mp hc
  have hk := h k hk
  have h2 := b64v_c hk.1 hk.2
  have e : (((b64c k).toNat : Nat) : Int) = b64c k := Int.toNat_of_nonneg h2.2.2.1
  have h3 : b64v (((b64c k).toNat : Nat) : Int) < 64 := by rw [e, h2.1]; exact hk.2
  refine ⟨by have := h2.2.1; exact dn11 0xfbeff803db00ec0d00ffb03db00 (by k_ne) h2.2.1 e, ?_, h3⟩
  intro hi
  have : ∀ c ∈ insSet, ¬ b64v (c : Int) < 64 := by decide
  exact this _ hi h3
theorem letC_inj {vs : List Int} (h : ∀ v ∈ vs, 0 ≤ v ∧ v < 64) (hn : vs.Nodup) {i k : Nat} (hik : i < k) (hk : k < (letC vs).length) : (letC vs).getD i 0 ≠ (letC vs).getD k 0 := by
  intro e
  have hl : (letC vs).length = vs.length := List.length_map _
  rw [List.getD, List.getD, List.getElem?_eq_getElem (by exact dn30 0x3efb7080dc2077040 (by k_ne) hik hk), List.getElem?_eq_getElem hk] at e
  simp only [Option.getD_some, letC, List.getElem_map] at e
  have hi' : i < vs.length := by exact dn40 0x3efbedc30380c2dc2077040 (by k_ne) hik hk hl
  have hk' : k < vs.length := by exact dn30 0x3efb7080e02077040 (by k_ne) hk hl
  have a := h vs[i] (List.getElem_mem hi')
  have b := h vs[k] (List.getElem_mem hk')
  have a2 := b64v_c a.1 a.2
  have b2 := b64v_c b.1 b.2
  have e2 : b64c vs[i] = b64c vs[k] := (Int.toNat_of_nonneg a2.2.2.1).symm.trans ((congrArg (fun n : Nat => (n : Int)) e).trans (Int.toNat_of_nonneg b2.2.2.1))
  have e3 : vs[i] = vs[k] := by rw [← a2.1, ← b2.1, e2]
  exact List.pairwise_iff_getElem.mp hn i k hi' hk' hik e3
theorem cl_cl (ns : List Int) {r : Nat} (hr : r < 3) : Cl (clS ns r).cps.toList := by
  rw [cl_cps ns hr]
  have hL := letC_not (vs_rng ns r)
  have hN := fun {i k : Nat} => @letC_inj (vsF ns r) (vs_rng ns r) (vs_nodup ns r) i k
  have hP := padC_in r
  have hp := padC_le r
  generalize letC (vsF ns r) = L at *
  generalize padC r = P at *
  refine ⟨fun i k hik hk e => ?_, fun i hi => ?_⟩
  · rw [List.length_append] at hk ⊢
    by_cases c1 : k < L.length
    · rw [getD_app_left c1, getD_app_left (by exact dn30 0x3efb7080dc2077040 (by k_ne) hik c1)] at e
      exact absurd e (hN hik c1)
    · by_cases c2 : i < L.length
      · rw [getD_app_left c2, getD_app_right (by exact dn20 0xfb6001ff7040 (by k_ne) c1)] at e
        exact absurd (e.trans (hP _ (getD_mem (by exact dn30 0xfbedc2c0103fdc1037bc2040 (by k_ne) hk c1)))) (hL _ (getD_mem c2)).1
      · exact ⟨by exact dn40 0xfbefbee2f3410bfdc3077bc00c2dc2076380 (by k_ne) hp hik hk c2, by exact dn40 0xfbefbee2f003bcd0bfdc3077bc00c2dc2076380 (by k_ne) hp hik hk c2, by rw [getD_app_right (by exact dn20 0xfb6001ff7040 (by k_ne) c2)]; exact hP _ (getD_mem (by exact dn40 0xfbefb70f0080ff7080def0c2077040 (by k_ne) hik hk c2))⟩
  · rw [List.length_append] at hi
    by_cases c : i < L.length
    · rw [getD_app_left c]; exact (hL _ (getD_mem c)).2.1
    · rw [getD_app_right (by exact dn20 0xfb6001ff7040 (by k_ne) c), hP _ (getD_mem (by exact dn30 0xfbedc2c0103fdc1037bc2040 (by k_ne) hi c))]; decide
theorem cl_codes (ns sc : List Int) {r : Nat} (hr : r < 3) : ∃ (k : Nat) (bs cs ms : List Trip), k ≤ 1000 ∧ QRun (clS ns r) (stF sc (clS ns r) ((clS ns r).length + 1)).1 k [(0, (clS ns r).length, 0, (stF sc (clS ns r) ((clS ns r).length + 1)).1.length)] bs ∧ bs.length ≤ 60 ∧ cs.Perm bs ∧ (cs.Pairwise fun a b => a.1 < b.1) ∧ mgEnd (cs.foldl mgStep ([], 0, 0, 0)) (clS ns r).length (stF sc (clS ns r) ((clS ns r).length + 1)).1.length = ms ∧ ms.length ≤ 64 ∧
    (ocF ms).1 = (cdF ((clS ns r).length : Int) ((stF sc (clS ns r) ((clS ns r).length + 1)).2 ++ [(((clS ns r).length : Int), ((stF sc (clS ns r) ((clS ns r).length + 1)).1.length : Int))])).1 := by
  have h0 := cl_cl ns hr
  have h1 := cl_len ns hr
  generalize clS ns r = x at *
  obtain ⟨e1, e2⟩ := stF_L sc x (x.length + 1)
  have h2 := stL_sw sc x.cps.toList (x.length + 1)
  have h3 := (stL_len sc x.cps.toList (x.length + 1)).2.2
  rw [← e1] at h2
  rw [e2]
  exact codes_same (kp_of h0 h2) (by rw [← str_len] at h3; exact dn20 0x3efb6801d80076800 (by k_ne) h1 h3)
/-! reading the strewn writing -/
theorem vals_app (a b : List Int) : valsOf (a ++ b) = valsOf a ++ valsOf b := by
  unfold valsOf; rw [List.map_append, List.filter_append]
noncomputable def castL (l : List Nat) : List Int := l.map fun c => ((c : Nat) : Int)
theorem castL_app (a b : List Nat) : castL (a ++ b) = castL a ++ castL b := List.map_append
theorem vals_ins (sc : List Int) (i : Nat) : valsOf (castL (insL sc i)) = [] := by
  unfold valsOf castL
  rw [List.filter_eq_nil_iff]
  intro v hv
  obtain ⟨c, hc, rfl⟩ := List.mem_map.mp hv
  obtain ⟨d, hd, rfl⟩ := List.mem_map.mp hc
  have : ∀ c ∈ insSet, ¬ b64v (c : Int) < 64 := by decide
  have := this d (ins_set sc i d hd)
  simpa using this
theorem ins_not61 (sc : List Int) (i : Nat) : ∀ c ∈ insL sc i, c ≠ 61 ∧ 64 ≤ b64v (c : Int) := by
  intro c hc
  have : ∀ c ∈ insSet, c ≠ 61 ∧ 64 ≤ b64v (c : Int) := by decide
  exact this c (ins_set sc i c hc)
section
variable {L P : List Nat} (hL : ∀ c ∈ L, c ≠ 61 ∧ c ∉ insSet ∧ b64v (c : Int) < 64) (hP : ∀ c ∈ P, c = 61) (sc : List Int)
include hL in
theorem st_letters : ∀ i, i ≤ L.length → (∀ c ∈ (stL sc (L ++ P) i).1, c ≠ 61) ∧ valsOf (castL (stL sc (L ++ P) i).1) = (stL sc (L ++ P) i).2.map (fun p => b64v (((L ++ P).getD p.1 0 : Nat) : Int)) ∧ ∀ p ∈ (stL sc (L ++ P) i).2, (L ++ P).getD p.1 0 ≠ 61
  | 0, _ => ⟨(fun _ h => nomatch h), rfl, fun _ h => nomatch h⟩
  | i + 1, hi => by
    obtain ⟨h1, h2, h3⟩ := st_letters i (by exact dn20 0x3ed8103606f340 (by k_ne) hi)
    show (∀ c ∈ (if keptB sc (L ++ P) i then _ else _ : List Nat × List (Nat × Nat)).1, _) ∧ valsOf (castL (if keptB sc (L ++ P) i then _ else _ : List Nat × List (Nat × Nat)).1) = (if keptB sc (L ++ P) i then _ else _ : List Nat × List (Nat × Nat)).2.map _ ∧ ∀ p ∈ (if keptB sc (L ++ P) i then _ else _ : List Nat × List (Nat × Nat)).2, _
    have g : (L ++ P).getD i 0 = L.getD i 0 := getD_app_left (by exact dn20 0x3edc103606f340 (by k_ne) hi)
    have hl := hL _ (getD_mem (A := L) (j := i) (by exact dn20 0x3edc103606f340 (by k_ne) hi))
    have b1 : ∀ c ∈ (stL sc (L ++ P) i).1 ++ insL sc i, c ≠ 61 := fun c hc => by
      rcases List.mem_append.mp hc with h | h
      · exact h1 c h
      · exact (ins_not61 sc i c h).1
    have b2 : valsOf (castL ((stL sc (L ++ P) i).1 ++ insL sc i)) = (stL sc (L ++ P) i).2.map (fun p => b64v (((L ++ P).getD p.1 0 : Nat) : Int)) := by
      rw [castL_app, vals_app, vals_ins, List.append_nil, h2]
    by_cases k : keptB sc (L ++ P) i
    · rw [if_pos k]
      dsimp only
      refine ⟨fun c hc => ?_, ?_, fun p hp => ?_⟩
      · rcases List.mem_append.mp hc with h | h
        · exact b1 c h
        · rw [List.mem_singleton.mp h, g]; exact hl.1
      · rw [castL_app, vals_app, b2, List.map_append]
        congr 1
        show valsOf [(((L ++ P).getD i 0 : Nat) : Int)] = [b64v (((L ++ P).getD i 0 : Nat) : Int)]
        have := hl.2.2
        rw [← g] at this
        unfold valsOf
        rw [List.map_cons, List.map_nil, List.filter_cons, if_pos (decide_eq_true this)]
        rfl
      · rcases List.mem_append.mp hp with h | h
        · exact h3 p h
        · rw [List.mem_singleton.mp h]; dsimp only; rw [g]; exact hl.1
    · rw [if_neg k]
      exact ⟨b1, b2, h3⟩
include hP in
theorem st_pads : ∀ t, ∃ zs, (stL sc (L ++ P) (L.length + t)).1 = (stL sc (L ++ P) L.length).1 ++ zs ∧ (∀ z ∈ zs, z = 61 ∨ 64 ≤ b64v ((z : Nat) : Int)) ∧ zs.count 61 = min t P.length ∧ ∃ M, (stL sc (L ++ P) (L.length + t)).2 = (stL sc (L ++ P) L.length).2 ++ M ∧ ∀ p ∈ M, (L ++ P).getD p.1 0 = 61
  | 0 => ⟨[], by simp, (fun _ h => nomatch h), by simp, [], by simp, fun _ h => nomatch h⟩
  | t + 1 => by
    obtain ⟨zs, h1, h2, h3, M, h4, h5⟩ := st_pads t
    have e1 : (stL sc (L ++ P) (L.length + (t + 1))) = if keptB sc (L ++ P) (L.length + t) then ((stL sc (L ++ P) (L.length + t)).1 ++ insL sc (L.length + t) ++ [(L ++ P).getD (L.length + t) 0], (stL sc (L ++ P) (L.length + t)).2 ++ [(L.length + t, ((stL sc (L ++ P) (L.length + t)).1 ++ insL sc (L.length + t)).length)]) else ((stL sc (L ++ P) (L.length + t)).1 ++ insL sc (L.length + t), (stL sc (L ++ P) (L.length + t)).2) := rfl
    rw [e1]
    have i0 : (insL sc (L.length + t)).count 61 = 0 := List.count_eq_zero.mpr fun h => (ins_not61 sc _ _ h).1 rfl
    have b2 : ∀ z ∈ zs ++ insL sc (L.length + t), z = 61 ∨ 64 ≤ b64v ((z : Nat) : Int) := fun z hz => by
      rcases List.mem_append.mp hz with h | h
      · exact h2 z h
      · exact .inr (ins_not61 sc _ z h).2
    by_cases k : keptB sc (L ++ P) (L.length + t)
    · rw [if_pos k]
      have hk := k.1
      rw [List.length_append] at hk
      have g : (L ++ P).getD (L.length + t) 0 = 61 := by
        rw [getD_app_right (by exact dn20 0x36bc1000 (by k_ne))]; exact hP _ (getD_mem (by exact dn30 0x3edc2c00bc1037bc202f040 (by k_ne) hk))
      dsimp only
      rw [g]
      refine ⟨zs ++ insL sc (L.length + t) ++ [61], by rw [h1]; simp, fun z hz => ?_, ?_, M ++ [(L.length + t, ((stL sc (L ++ P) (L.length + t)).1 ++ insL sc (L.length + t)).length)], by rw [← List.append_assoc, h4], fun p hp => ?_⟩
      · rcases List.mem_append.mp hz with h | h
        · exact b2 z h
        · exact .inl (List.mem_singleton.mp h)
      · rw [List.count_append, List.count_append, i0, h3]
        show _ + 0 + 1 = _
        (first | lia | omega)
      · rcases List.mem_append.mp hp with h | h
        · exact h5 p h
        · rw [List.mem_singleton.mp h]; exact g
    · rw [if_neg k]
      refine ⟨zs ++ insL sc (L.length + t), by rw [h1]; simp, b2, ?_, M, h4, h5⟩
      rw [List.count_append, i0, h3]
      have : ¬ t < P.length := fun c => k ⟨by rw [List.length_append]; exact dn30 0x3edef042bc00b7040 (by k_ne) c, .inl (by rw [getD_app_right (by exact dn20 0x36bc1000 (by k_ne))]; exact hP _ (getD_mem (by exact dn30 0x3edc1c02bc00b7040 (by k_ne) c)))⟩
      rw [Nat.min_eq_right (Nat.le_of_not_lt this), Nat.min_eq_right (Nat.le_succ_of_le (Nat.le_of_not_lt this))]; rfl
end
theorem left_L {x : Str} {K : List (Nat × Nat)} (h : ∀ p ∈ K, p.1 < x.length) : leftF x (K.map castP) = (K.filter fun p => decide (x.cps.toList.getD p.1 0 ≠ 61)).map fun p => b64v ((x.cps.toList.getD p.1 0 : Nat) : Int) := by
  unfold leftF
  induction K with
  | nil => rfl
  | cons a t ih =>
    have hit : Txt.item x (castP a).1 = ⟨#[x.cps.getD a.1 0]⟩ := item_at rfl (h a (.head _))
    have ih := ih fun p hp => h p (.tail _ hp)
    rw [List.map_cons, List.filter_cons, List.filter_cons, hit]
    by_cases c : x.cps.getD a.1 0 = 61
    · rw [if_neg (by rw [(eq_sign _).mpr c]; decide), if_neg (by rw [getD_toList]; simp [c]), ih]
    · rw [if_pos (by rw [Bool.eq_false_iff.mpr fun e => c ((eq_sign _).mp e)]; rfl), if_pos (by rw [getD_toList, decide_eq_true_eq]; exact c), List.map_cons, List.map_cons, ih, hit, getD_toList]
      rfl
theorem st_split (ns sc : List Int) {r : Nat} (hr : r < 3) : ∃ ys zs, (stF sc (clS ns r) ((clS ns r).length + 1)).1.cps.toList = ys ++ zs ∧ (∀ y ∈ ys, y ≠ 61) ∧ (∀ z ∈ zs, z = 61 ∨ 64 ≤ b64v ((z : Nat) : Int)) ∧ zs.count 61 = (clS ns r).cps.toList.count 61 ∧ valsOf (castL ys) = leftF (clS ns r) (stF sc (clS ns r) ((clS ns r).length + 1)).2 := by
  have hc := cl_cps ns hr
  have hL := letC_not (vs_rng ns r)
  have hP := padC_in r
  have hkr : ∀ p ∈ (stL sc (clS ns r).cps.toList ((clS ns r).length + 1)).2, p.1 < (clS ns r).length := fun p hp => by
    have := ((stL_sw sc (clS ns r).cps.toList ((clS ns r).length + 1)).bnd p hp).2.1
    rw [str_len]; exact this
  rw [(stF_L sc _ _).1, (stF_L sc _ _).2, left_L hkr, str_len, hc]
  generalize letC (vsF ns r) = L at *
  generalize padC r = P at *
  obtain ⟨h1, h2, h3⟩ := st_letters (P := P) hL sc L.length (Nat.le_refl _)
  obtain ⟨zs, g1, g2, g3, M, g4, g5⟩ := st_pads (L := L) hP sc (P.length + 1)
  have e : (L ++ P).length + 1 = L.length + (P.length + 1) := by rw [List.length_append]; exact dn20 0x38bef34102f36f040 (by k_ne)
  rw [e]
  refine ⟨_, zs, g1, h1, g2, ?_, ?_⟩
  · rw [g3, List.count_append, List.count_eq_zero.mpr fun h => (hL _ h).1 rfl, List.count_eq_length.mpr fun c hc => (hP c hc).symm]
    (first | lia | omega)
  · rw [g4, h2, List.filter_append]
    rw [List.filter_eq_nil_iff (l := M).mpr (fun p hp => by rw [decide_eq_true_eq]; exact fun q => q (g5 p hp)), List.append_nil, List.filter_eq_self.mpr (fun p hp => decide_eq_true (h3 p hp))]
theorem count_cast (l : List Nat) : (castL l).count 61 = l.count 61 := by
  unfold castL
  induction l with
  | nil => rfl
  | cons a t ih =>
    rw [List.map_cons, List.count_cons, List.count_cons, ih]
    by_cases c : a = 61
    · subst c; rfl
    · rw [if_neg (by simp; exact dn10 0xfbfec0f6cd00ff803db00 (by k_ne) c), if_neg (by simpa using c)]
theorem rd_st (ns sc : List Int) {r : Nat} (hr : r < 3) : readF (stF sc (clS ns r) ((clS ns r).length + 1)).1 false = if (leftF (clS ns r) (stF sc (clS ns r) ((clS ns r).length + 1)).2).length % 4 = 0 ∨ 3 < (leftF (clS ns r) (stF sc (clS ns r) ((clS ns r).length + 1)).2).length % 4 + (clS ns r).cps.toList.count 61 then some (octF (leftF (clS ns r) (stF sc (clS ns r) ((clS ns r).length + 1)).2)) else none := by
  obtain ⟨ys, zs, h1, h2, h3, h4, h5⟩ := st_split ns sc hr
  have ha := st_asc sc (cl_asc ns hr)
  have hcnt : (clS ns r).cps.toList.count 61 ≤ 2 := by
    rw [cl_cps ns hr, List.count_append, List.count_eq_zero.mpr fun h => (letC_not (vs_rng ns r) _ h).1 rfl]
    have := padC_le r
    have := (padC r).count_le_length (a := 61)
    exact dn20 0x3efb63af04cd80076380 (by k_ne) ‹_› this
  unfold readF
  rw [bInts_bytF _ ha, ← h5, ← h4]
  rw [← h4] at hcnt
  have e : ((stF sc (clS ns r) ((clS ns r).length + 1)).1.cps.toList.map fun c => ((c : Nat) : Int)) = castL ys ++ castL zs := by rw [h1]; exact castL_app _ _
  rw [read_loose e (fun y hy => ?_) (fun z hz => ?_), count_cast]
  · generalize (valsOf (castL ys)).length % 4 = a
    generalize List.count 61 zs = b at *
    by_cases c : a = 0 ∨ 3 < a + b
    · rw [if_pos c, if_pos (by exact dn20 0xfbef7cff8341def0013f8301f77bc004fe0c076380 (by k_ne) hcnt c)]
    · rw [if_neg c, if_neg (by exact dn20 0xfbff7cff8340def0403f8300ffddef0403f8300 (by k_ne) c)]
  · obtain ⟨c, hc, rfl⟩ := List.mem_map.mp hy
    have := h2 c hc
    show ((c : Nat) : Int) ≠ 61
    exact dn10 0xfbfec0f6cd00ff803db00 (by k_ne) this
  · obtain ⟨c, hc, rfl⟩ := List.mem_map.mp hz
    rcases h3 c hc with q | q
    · exact .inl (by show ((c : Nat) : Int) = 61; exact dn10 0xfbb03db3403803db00 (by k_ne) q)
    · exact .inr q
theorem left_rng (ns sc : List Int) {r : Nat} (hr : r < 3) : ∀ f ∈ leftF (clS ns r) (stF sc (clS ns r) ((clS ns r).length + 1)).2, 0 ≤ f ∧ f < 64 := by
  obtain ⟨ys, zs, h1, h2, h3, h4, h5⟩ := st_split ns sc hr
  rw [← h5]
  intro f hf
  unfold valsOf at hf
  obtain ⟨a, b⟩ := List.mem_filter.mp hf
  obtain ⟨c, _, rfl⟩ := List.mem_map.mp a
  exact ⟨(@b64v_le c).1, by simpa using b⟩
theorem stL_bad (sc : List Int) (X : List Nat) : ∀ i, (stL sc X i).1.length = (stL sc X i).2.length ∨ ∃ c ∈ (stL sc X i).1, c ∈ insSet
  | 0 => .inl rfl
  | i + 1 => by
    have ih := stL_bad sc X i
    show (if keptB sc X i then _ else _ : List Nat × List (Nat × Nat)).1.length = (if keptB sc X i then _ else _ : List Nat × List (Nat × Nat)).2.length ∨ ∃ c ∈ (if keptB sc X i then _ else _ : List Nat × List (Nat × Nat)).1, _
    have hb : (((stL sc X i).1 ++ insL sc i).length = (stL sc X i).2.length) ∨ ∃ c ∈ (stL sc X i).1 ++ insL sc i, c ∈ insSet := by
      cases e : insL sc i with
      | nil => rw [List.append_nil]; exact ih
      | cons a t => exact .inr ⟨a, List.mem_append_right _ (.head _), ins_set sc i a (by rw [e]; exact .head _)⟩
    by_cases k : keptB sc X i
    · rw [if_pos k]
      dsimp only
      rcases hb with h | ⟨c, h, h'⟩
      · exact .inl (by rw [List.length_append (bs := [X.getD i 0]), List.length_append (bs := [(i, _)]), h]; rfl)
      · exact .inr ⟨c, List.mem_append_left _ h, h'⟩
    · rw [if_neg k]; exact hb
theorem rd_bad (ns sc : List Int) {r : Nat} (hr : r < 3) : (stF sc (clS ns r) ((clS ns r).length + 1)).1.length = (stF sc (clS ns r) ((clS ns r).length + 1)).2.length ∨ readF (stF sc (clS ns r) ((clS ns r).length + 1)).1 true = none := by
  have ha := st_asc sc (cl_asc ns hr)
  generalize clS ns r = x at *
  obtain ⟨e1, e2⟩ := stF_L sc x (x.length + 1)
  rcases stL_bad sc x.cps.toList (x.length + 1) with h | ⟨c, h, h'⟩
  · exact .inl (by rw [str_len, e1, e2, List.length_map]; exact h)
  · refine .inr ?_
    unfold readF
    rw [bInts_bytF _ ha, e1]
    have : ∀ c ∈ insSet, c ≠ 61 ∧ 64 ≤ b64v (c : Int) := by decide
    obtain ⟨z1, z2⟩ := this c h'
    exact read_bad (List.mem_map.mpr ⟨c, h, rfl⟩) (by exact dn10 0xfbfec0f6cd00ff803db00 (by k_ne) z1) z2
theorem fm3 (a : Int) : 0 ≤ a.fmod 3 ∧ a.fmod 3 < 3 := ⟨Int.fmod_nonneg_of_pos _ (by decide), Int.fmod_lt_of_pos _ (by decide)⟩
theorem add_row {prog : Program} {w : World} {A : Around} {E : Value → Shared → Prop} {s : Shared} {ns : List Int} {r : Nat} {t u : Tok} {Q : Value → Shared → Prop} (h : ∀ t' k, Q (.str (clS ns r) t') { s with toks := k }) : wpAny (model prog w) A (binaryOp .Add (.str (rowS ns) t) (.str (tailT.getD r Str.empty) u)) Q E s :=
  SB.add (fun t' k => h t' k) (by rw [PySem.sizeLine_eq]; have := tail_len r; have := rowS_len ns; exact dn20 0x3efb6000000000001000000b6f001d9c076400 (by k_ne) ‹_› this)
end Mine
end
section
open PySem PySem.W PyProof.Rows
namespace Mine
theorem pick3 {a0 a1 a2 : Addr} : ∀ j, j < 3 → ∃ a, #[Value.ref a0, .ref a1, .ref a2][j]? = some (.ref a) ∧ ((j = 0 ∧ a = a0) ∨ (j = 1 ∧ a = a1) ∨ (j = 2 ∧ a = a2))
  | 0, _ => ⟨a0, rfl, .inl ⟨rfl, rfl⟩⟩
  | 1, _ => ⟨a1, rfl, .inr (.inl ⟨rfl, rfl⟩)⟩
  | 2, _ => ⟨a2, rfl, .inr (.inr ⟨rfl, rfl⟩)⟩
theorem item_three {prog : Program} {w : World} {A : Around} {E : Value → Shared → Prop} {s : Shared} {value slice : PySem.Expr} {l a0 a1 a2 : Addr} {i : Int} {u : Tok} {Q : Value → Shared → Prop} (ht : IsTup s.heap l #[.ref a0, .ref a1, .ref a2]) (h0 : 0 ≤ i) (h1 : i < 3)
    (h : ∀ a, (i.toNat = 0 ∧ a = a0) ∨ (i.toNat = 1 ∧ a = a1) ∨ (i.toNat = 2 ∧ a = a2) → Q (.ref a) s)
    (hs : subscripted slice false (.ref l) (.int i u) = operate [.ref l, .int i u] (getItem (.ref l) (.int i u)) := by with_unfolding_all rfl) :
    wpAny (model prog w) A (subscriptTail value slice (.ref l) (.int i u)) Q E s := by
  obtain ⟨a, e, ha⟩ := pick3 (a0 := a0) (a1 := a1) (a2 := a2) i.toNat ((Int.toNat_lt h0).mpr h1)
  exact tail_any ht.typeIs slot_tuple_getitem.lookup (getItem_tuple ht (by exact dn01 0xfb9035fc2bb900c (by k_ne) h0) (by exact dn01 0x3eebf0ae03a3c0 (by k_ne) h1) (seqIndex_of h0 (by show i < ((3 : Nat) : Int); exact dn01 0xfbad0f03a3c0 (by k_ne) h1)) e (h a ha)) hs
theorem of_three {h₀ h : Heap} {L : Addr} {news : News0} {r : Nat} {a a0 a1 a2 : Addr} {t0 t1 t2 t3 t4 : Tok} {k0 k1 k2 : Nat} (_N : News h₀ L h news) (ha : (r = 0 ∧ a = a0) ∨ (r = 1 ∧ a = a1) ∨ (r = 2 ∧ a = a2))
    (m0 : (a0, listOf ([] : List Value).toArray k0) ∈ news) (m1 : (a1, listOf [Value.int 62 t0, .int 48 t1].toArray k1) ∈ news) (m2 : (a2, listOf [Value.int 62 t2, .int 63 t3, .int 48 t4].toArray k2) ∈ news) :
    ∃ vs k, (a, listOf vs.toArray k) ∈ news ∧ IntsAre vs (tailN r) := by
  rcases ha with ⟨rfl, rfl⟩ | ⟨rfl, rfl⟩ | ⟨rfl, rfl⟩
  · exact ⟨_, _, m0, .nil⟩
  · exact ⟨_, _, m1, .cons _ _ (.cons _ _ .nil)⟩
  · exact ⟨_, _, m2, .cons _ _ (.cons _ _ (.cons _ _ .nil))⟩
theorem tailN_len (r : Nat) : (tailN r).length ≤ 3 := by
  unfold tailN
  by_cases h0 : r = 0
  · rw [if_pos h0]; decide
  · rw [if_neg h0]
    by_cases h1 : r = 1
    · rw [if_pos h1]; decide
    · rw [if_neg h1]; decide
theorem nwSub {h₀ h : Heap} {L : Addr} {l l' : News0} (N : News h₀ L h l) (hs : ∀ p ∈ l', p ∈ l) : News h₀ L h l' := fun p hp => N p (hs p hp)
theorem nw_pick {h₀ h : Heap} {L : Addr} {a x1 x2 x3 x4 : Addr × Obj} {l : News0} (N : News h₀ L h (x1 :: x2 :: x3 :: x4 :: l)) (hm : a ∈ (x1 :: x2 :: x3 :: x4 :: l)) : News h₀ L h (a :: l) := fun p hp => by
  rcases List.mem_cons.mp hp with rfl | hp
  · exact N _ hm
  · exact N p (.tail _ (.tail _ (.tail _ (.tail _ hp))))
theorem nw_snd {h₀ h : Heap} {L : Addr} {x y : Addr × Obj} {l : News0} (N : News h₀ L h (x :: y :: l)) : News h₀ L h (x :: l) := fun p hp => by
  rcases List.mem_cons.mp hp with rfl | hp
  · exact N _ (.head _)
  · exact N p (.tail _ (.tail _ hp))
theorem ConS.useA {w : World} {k : Nat} {base : Heap} {news : News0} {tree : Sem Value} {Ret : (Value → News0 → Prop) → Prop} (C : ConS w k base news tree Ret)
    {p : Program} {loose : List Str} {mean : ExcName → Option Value} {mg mb : Str → Option Value} {A : Around}
    {cn : Str} {cs : Scope} {a : Addr} {ccd : Value} {cl : List (Str × Addr)} {A₀ : Around} {h₀ : Heap} {L : Addr} {m : Str → Option Value} {s : Shared}
    {Q E : Value → Shared → Prop} (hh : A.handled = none) (hf : A.frames = some [envX cn cs L a ccd cl]) (B : Below A₀ base [] h₀) (F : Fr h₀ L s.heap m) (X : (HD.K w.params).In h₀) (N : News h₀ L s.heap news) (T : Top p loose mean mg mb h₀) (Xb : (HD.K w.params).In base) (Tb : Top p loose mean mg mb base) (hk : cs.kind = .function)
    (hd : A.depth + k < recursionLimit) (hu : A.units + 8 * k < cLine)
    (hret : Ret (fun r news' => ∀ (h' : Heap) (tk' : Nat), Fr h₀ L h' m → News h₀ L h' news' → Q r { s with heap := h', toks := tk' })) :
    wpAny (model PG w) A tree Q E s := by
  obtain ⟨hd0, dp, fr, gd, un⟩ := A
  dsimp only at hh hf
  subst hh
  subst hf
  exact C p loose mean mg mb dp un gd cn cs a ccd cl A₀ h₀ L m s Q E B F X N T Xb Tb hk hd hu hret
section
variable {prog : Program} {w : World} {A : Around} {E : Value → Shared → Prop} {s : Shared} {Q : Value → Shared → Prop} {b c : Array UInt8} {t u : Tok}
theorem ne_same (e : b = c) (h : Q (.bool false) s) : wpAny (model prog w) A (compareOp .NotEq (.bytes b t) (.bytes c u)) Q E s := by
  subst e
  refine ne_bytes ?_
  have e2 : (b.toList != b.toList) = false := by simp
  rw [e2]
  exact h
theorem ne_read {o : Option (Array UInt8)} (e : o = some c) (h : Q (.bool false) s) : wpAny (model prog w) A (compareOp .NotEq (readV o t) (.bytes c u)) Q E s := by
  subst e
  exact ne_same rfl h
theorem ne_none {o : Option (Array UInt8)} (e : o = none) (h : Q (.bool false) s) : wpAny (model prog w) A (compareOp .NotEq (readV o t) .none) Q E s := by
  subst e
  exact EqNone.ne_none_none h
end
theorem is_read {prog : Program} {w : World} {A : Around} {E : Value → Shared → Prop} {s : Shared} {Q : Value → Shared → Prop} {t : Tok} {o : Option (Array UInt8)} (e : o = none) (h : Q (.bool true) s) : wpAny (model prog w) A (compareOp .Is (readV o t) .none) Q E s := by
  subst e
  exact is_none_none h
theorem lists_same {prog : Program} {w : World} {A : Around} {E : Value → Shared → Prop} {s : Shared} {h₀ : Heap} {L a b : Addr} {news n₁ n₂ : List (Addr × Obj)} {oa ob : Obj} {xs ys : List Value} {ka kb : Nat} {ds es : List Dat} {Q : Value → Shared → Prop}
    (N : News h₀ L s.heap news) (ma : (a, oa) ∈ news) (ca : oa.cls = .type "list") (da : oa.data = .seq xs.toArray ka) (Da : DatAll n₁ xs ds) (sa : ∀ p ∈ n₁, p ∈ news)
    (mb : (b, ob) ∈ news) (cb : ob.cls = .type "list") (db : ob.data = .seq ys.toArray kb) (Db : DatAll n₂ ys es) (sb : ∀ p ∈ n₂, p ∈ news) (e : ds = es)
    (hb : ∀ d ∈ es, kqdOk 8 d = true) (hu : A.units + 64 < cLine) (h : Q (.bool false) s) : wpAny (model prog w) A (compareOp .NotEq (.ref a) (.ref b)) Q E s := by
  subst e
  exact kqd_ne N ma ca da Da sa mb cb db Db sb hb hb hu (by simpa using h)
theorem led_two {h₀ h : Heap} {L : Addr} {x a b : Addr × Obj} {l : News0} (N : News h₀ L h (x :: l)) (ha : a ∈ l) (hb : b ∈ l) : News h₀ L h (x :: a :: b :: l) := fun p hp => by
  rcases List.mem_cons.mp hp with rfl | hp
  · exact N _ (.head _)
  rcases List.mem_cons.mp hp with rfl | hp
  · exact N _ (.tail _ ha)
  rcases List.mem_cons.mp hp with rfl | hp
  · exact N _ (.tail _ hb)
  · exact N _ (.tail _ hp)
theorem led_one {h₀ h : Heap} {L : Addr} {x a : Addr × Obj} {l : News0} (N : News h₀ L h (x :: l)) (ha : a ∈ l) : News h₀ L h (x :: a :: l) := fun p hp => by
  rcases List.mem_cons.mp hp with rfl | hp
  · exact N _ (.head _)
  rcases List.mem_cons.mp hp with rfl | hp
  · exact N _ (.tail _ ha)
  · exact N _ (.tail _ hp)
theorem all_asc {y : Str} (h : ∀ c ∈ y.cps.toList, c < 128) : y.cps.all (· < 128) = true := by
  rw [← Array.all_toList, List.all_eq_true]
  intro c hc
  exact decide_eq_true (h c hc)
theorem led_two2 {h₀ h : Heap} {L : Addr} {x y a b : Addr × Obj} {l : News0} (N : News h₀ L h (x :: y :: l)) (ha : a ∈ l) (hb : b ∈ l) : News h₀ L h (x :: y :: a :: b :: l) := fun p hp => by
  rcases List.mem_cons.mp hp with rfl | hp
  · exact N _ (.head _)
  rcases List.mem_cons.mp hp with rfl | hp
  · exact N _ (.tail _ (.head _))
  rcases List.mem_cons.mp hp with rfl | hp
  · exact N _ (.tail _ (.tail _ ha))
  rcases List.mem_cons.mp hp with rfl | hp
  · exact N _ (.tail _ (.tail _ hb))
  · exact N _ (.tail _ (.tail _ hp))
theorem sg_idx : ((List.range 64).all fun k => Builtin.Str.occurrences signsS ⟨#[(b64c ((k : Nat) : Int)).toNat]⟩ 0 signsS.length 1 == [k]) = true := by decide +kernel
theorem b64v_tab : ((List.range 64).all fun k => b64v (((b64c ((k : Nat) : Int)).toNat : Nat) : Int) == ((k : Nat) : Int)) = true := by decide +kernel
section
variable {prog : Program} {w : World} {A : Around} {E : Value → Shared → Prop} {s : Shared} {Q : Value → Shared → Prop} {x : Str} {a : Int} {t u : Tok}
theorem it_eq (h0 : 0 ≤ a) (h1 : a < (x.length : Int)) : Txt.item x a = ⟨#[x.cps.getD a.toNat 0]⟩ := PySem.W.item_meets ⟨h0, h1⟩
theorem index_sg (hs : ∀ c ∈ x.cps.toList, c = 61 ∨ ∃ v : Nat, v < 64 ∧ c = (b64c v).toNat) (h0 : 0 ≤ a) (h1 : a < (x.length : Int)) (hne : ¬ (Txt.item x a == Str.ofString "=") = true)
    (h : ∀ t' k, Q (.int (b64v (((Txt.item x a).cps.getD 0 0 : Nat) : Int)) t') { s with toks := k }) : wpAny (model prog w) A (call (.builtin "str.index") [.str signsS t, .str (Txt.item x a) u]) Q E s := by
  rw [it_eq h0 h1] at hne ⊢
  have hlt : a.toNat < x.cps.size := by have h1' : a < (x.cps.size : Int) := h1; omega
  have hmem : x.cps.getD a.toNat 0 ∈ x.cps.toList := by
    have e : x.cps.getD a.toNat 0 = x.cps[a.toNat] := by simp [Array.getD, hlt]
    rw [e]; exact Array.mem_toList_iff.mpr (Array.getElem_mem hlt)
  rcases hs _ hmem with e | ⟨v, hv, e⟩
  · exact absurd ((eq_sign _).mpr e) hne
  · have h2 := List.all_eq_true.mp sg_idx v (List.mem_range.mpr hv)
    have h3 := List.all_eq_true.mp b64v_tab v (List.mem_range.mpr hv)
    have h2' : Builtin.Str.occurrences signsS ⟨#[(b64c ((v : Nat) : Int)).toNat]⟩ 0 signsS.length 1 = [v] := eq_of_beq h2
    have h3' : b64v (((b64c ((v : Nat) : Int)).toNat : Nat) : Int) = (v : Int) := eq_of_beq h3
    have h4 : ∀ t' k, Q (.int (v : Int) t') { s with toks := k } := fun t' k => by
      have := h t' k
      rw [it_eq h0 h1] at this
      show Q (.int (v : Int) t') _
      have e5 : b64v ((((⟨#[x.cps.getD a.toNat 0]⟩ : Str).cps.getD 0 0 : Nat)) : Int) = (v : Int) := by
        show b64v ((x.cps.getD a.toNat 0 : Nat) : Int) = _
        rw [e]; exact h3'
      rw [e5] at this
      exact this
    rw [e]
    exact SC.index h2' (h4 _ _)
theorem ne_it_t (hne : ¬ (Txt.item x a == Str.ofString "=") = true) (h : Q (.bool true) s) : wpAny (model prog w) A (compareOp .NotEq (.str (Txt.item x a) t) (.str (Str.ofString "=") u)) Q E s := by
  refine ne_str ?_
  have e : (Txt.item x a != Str.ofString "=") = true := by unfold bne; rw [Bool.eq_false_iff.mpr hne]; rfl
  rw [e]; exact h
theorem ne_it_f (hne : (Txt.item x a == Str.ofString "=") = true) (h : Q (.bool false) s) : wpAny (model prog w) A (compareOp .NotEq (.str (Txt.item x a) t) (.str (Str.ofString "=") u)) Q E s := by
  refine ne_str ?_
  have e : (Txt.item x a != Str.ofString "=") = false := by unfold bne; rw [hne]; rfl
  rw [e]; exact h
end
theorem count_sg {prog : Program} {w : World} {A : Around} {E : Value → Shared → Prop} {s : Shared} {Q : Value → Shared → Prop} {x : Str} {t u : Tok}
    (h : ∀ t' k, Q (.int ((x.cps.toList.count 61 : Nat) : Int) t') { s with toks := k }) : wpAny (model prog w) A (call (.builtin "str.count") [.str x t, .str (Str.ofString "=") u]) Q E s := by
  have e : Str.ofString "=" = ⟨#[61]⟩ := by decide +kernel
  have e2 : ∀ l : List Nat, cnt 61 l = ((l.count 61 : Nat) : Int) := fun l => by
    induction l with
    | nil => rfl
    | cons a r ih =>
      rw [cnt_cons, ih, List.count_cons]
      by_cases c : a = 61
      · rw [if_pos c, if_pos (by simpa using c)]; exact dn10 0x3bd2f340bf400d (by k_ne)
      · rw [if_neg c, if_neg (by simpa using c)]; exact dn10 0x3bd2f300bf400c (by k_ne)
  rw [e]
  refine SC.count ?_
  rw [count_cnt, e2]
  exact h _ _
theorem left_len (x : Str) (K : List (Int × Int)) : (leftF x K).length ≤ K.length := by
  unfold leftF
  rw [List.length_map]
  exact List.length_filter_le _ _
theorem left_no {x : Str} {pre : List (Int × Int)} {a b : Int} (h : (Txt.item x a == Str.ofString "=") = true) : leftF x (pre ++ [(a, b)]) = leftF x pre := by
  unfold leftF
  rw [List.filter_append, List.map_append]
  simp [h]
theorem left_yes {x : Str} {pre : List (Int × Int)} {a b : Int} (h : ¬ (Txt.item x a == Str.ofString "=") = true) : leftF x (pre ++ [(a, b)]) = leftF x pre ++ [b64v (((Txt.item x a).cps.getD 0 0 : Nat) : Int)] := by
  unfold leftF
  rw [List.filter_append, List.map_append]
  simp [h]
end Mine
end
section
open PySem PySem.W PyProof.Rows PySem.Spec PySem.Calls
namespace Mine
open LCg
section
variable {prog : Program} {w : World} {A : Around} {E : Value → Shared → Prop} {s : Shared} {h₀ : Heap} {L : Addr} {m : Str → Option Value}
theorem cpt_loop {ct elt iter : PySem.Expr} {elts : List PySem.Expr} {kk : Nat} {tp : Pos} {scope : Scope} {pos : Pos} {it acc : Value} {env : Env} {R : Result → Shared → Prop} (I : Nat → Shared → Prop)
    (turn : ∀ n s, I n s → wpAny (model prog w) A (pyNext it) (fun r s₁ => match r with
      | none => R (.ok .next) s₁
      | some v => wpAny (model prog w) A (letOwnedTupleGo (.Tuple elts kk tp) it v) (fun _ s₀ => wpAny (model prog w) A (assign (.Tuple elts kk tp) env v) (fun _ s₂ =>
          wpAny (model prog w) A (isTrue ct env (eval ct env)) (fun ok s₃ => if ok = true then wpAny (model prog w) A (eval elt env) (fun x s₄ =>
              wpAny (model prog w) A (call (.builtin "list.append") [acc, x]) (fun _ s₅ => ∃ m, m < n ∧ I m s₅) (notedBy (model prog w) A env fun e s' => R (.error e) s') s₄) (notedBy (model prog w) A env fun e s' => R (.error e) s') s₃
            else ∃ m, m < n ∧ I m s₃) (notedBy (model prog w) A env fun e s' => R (.error e) s') s₂)
          (notedBy (model prog w) A env fun e s' => R (.error e) s') s₀) (notedBy (model prog w) A env fun e s' => R (.error e) s') s₁) (notedBy (model prog w) A env fun e s' => R (.error e) s') s)
    (n : Nat) (h : I n s) : codeAny (model prog w) A (.compLoop (.ListComp elt [⟨.Tuple elts kk tp, iter, [ct], 0⟩] scope pos) 0 it acc env) R s := by
  refine codeAny_loop rfl I (fun n s hI => ?_) n h
  show wpAny _ A ((compTurn (.ListComp elt [⟨.Tuple elts kk tp, iter, [ct], 0⟩] scope pos) 0 it acc env).onRaise (fun x => do noteFrame x env; theTreesLotGoes x)) _ _ s
  refine wpAny_noted ?_
  rw [compTurn_list]
  refine wpAny_bind (wpAny_standAt (wpAny_bind (wpAny_mono (turn n s hI) (fun r s₁ h₁ => ?_) fun _ _ h' => h')))
  cases r with
  | none => exact wpAny_pure h₁
  | some v =>
    refine wpAny_bind (wpAny_mono h₁ (fun _ s₀ g₀ => ?_) fun _ _ h' => h')
    refine wpAny_bind (wpAny_mono g₀ (fun _ s₂ h₂ => wpAny_bind (wpAny_mono (wpAny_tests_one h₂) (fun ok s₃ h₃ => ?_) fun _ _ h' => h')) fun _ _ h' => h')
    cases ok with
    | false => exact wpAny_pure ⟨rfl, h₃⟩
    | true => exact wpAny_bind (wpAny_bind (wpAny_mono h₃ (fun x s₄ h₄ => wpAny_bind (wpAny_mono h₄ (fun _ s₅ h₅ => wpAny_pure (wpAny_pure ⟨rfl, h₅⟩)) fun _ _ h' => h')) fun _ _ h' => h'))
variable {env : Env} {ct elt iter : PySem.Expr} {x x₂ y : Str} {px px₂ tp py pos spos : Pos} {kk : Nat} {scope : Scope} {cl : List (Str × Addr)} {news : News0} {ps : List (Int × Int)} {ax : Addr} {vs : List Value} {nk : Nat}
noncomputable def CptTurn (prog : Program) (w : World) (A : Around) (h₀ : Heap) (L : Addr) (m : Str → Option Value) (env : Env) (ct elt : PySem.Expr) (x x₂ : Str) (scope : Scope) (cl : List (Str × Addr)) (s : Shared) (news : News0) (ps : List (Int × Int)) (F : List (Int × Int) → List Int) : Prop :=
  ∀ pre a b ta tb I oI C oC D m₂ ys h tk (E' : Value → Shared → Prop), (a, b) ∈ ps → NsObj oC m₂ → m₂ x = some (.int a ta) → m₂ x₂ = some (.int b tb) → Fr h₀ L h m → News h₀ L h ((I, oI) :: (C, oC) :: (D, lst ys) :: news) → Off3 I C D news → ((@Ne Nat I C) ∧ (@Ne Nat I D) ∧ (@Ne Nat C D)) →
    wpAny (model prog w) A (isTrue ct (compEnvC scope cl C env) (eval ct (compEnvC scope cl C env))) (fun ok s' => if ok = true then
      wpAny (model prog w) A (eval elt (compEnvC scope cl C env)) (CompEnd h₀ L m { s with heap := h, toks := tk } I oI C oC D (lst ys) (fun _ => True) (fun y nw => KCiEl news (F pre) (F (pre ++ [(a, b)])) y nw)) E' s'
      else CompEnd h₀ L m { s with heap := h, toks := tk } I oI C oC D (lst ys) (fun _ => True) (fun _ nw => KCiNo news (F pre) (F (pre ++ [(a, b)])) nw) Value.none s') E' { s with heap := h, toks := tk }
theorem cpt_block {s₂ : Shared} {I : Addr} {F : List (Int × Int) → List Int} {RR : Value → Addr → Result → Shared → Prop} (hh : A.handled = none) (hI0 : s₂.heap.IsListIter I ax 0) (hIx : I ≠ ax)
    (hm : (ax, listOf vs.toArray nk) ∈ news) (hD : DatAll news vs (kdL ps)) (hsz : vs.length ≤ sizeLine) (hF : F [] = [])
    (hcell : ∀ y ∈ scope.names, y.2 ≠ .cell) (hkind : scope.kind = .function) (hx : scope.names.lookup x = some .local) (hx₂ : scope.names.lookup x₂ = some .local) (hxx : ¬ x = x₂)
    (Fr₀ : Fr h₀ L s₂.heap m) (N : News h₀ L s₂.heap news) (hIL : L ≠ I) (hIh : h₀.get? I = none) (off : ∀ p ∈ news, p.1 ≠ I)
    (T : CptTurn prog w A h₀ L m env ct elt x x₂ scope cl s₂ news ps F)
    (hRR : ∀ D C h tk m' ys, Fr h₀ L h m → News h₀ L h ((D, lst ys) :: news) → (∀ p ∈ news, p.1 ≠ D) → h.Ns C m' → h₀.get? C = none → C ≠ L → C ≠ D → (∀ p ∈ news, p.1 ≠ C) → IntsAre ys (F ps) → RR (.ref D) C (.ok .next) { s₂ with heap := h, toks := tk }) :
    wpAny (model prog w) A (newList []) (fun acc s₃ => wpAny (model prog w) A (newFunctionEnv scope env.globals cl [] env.qual none .none (some env)) (fun cenv s₄ =>
      codeAny (model prog w) A (.compStart (.ListComp elt [⟨.Tuple [.Name x px, .Name x₂ px₂] kk tp, iter, [ct], 0⟩] scope pos) 0 (.ref I) acc { cenv with scope := relabel scope env }) (RR acc cenv.locals) s₄) E s₃) E s₂ := by
  refine wpAny_newObj_type (wpAny_newFunctionEnv hcell (by intro y hy; simp at hy) (fun h₁ hns₁ hsb₁ => ?_) hkind)
  dsimp only at hns₁ hsb₁ ⊢
  generalize hH2 : s₂.heap.push { cls := .type "list", dict := none, data := .seq ([] : List Value).toArray } = H2 at hns₁ hsb₁ ⊢
  have hC : H2.objs.size = s₂.heap.objs.size + 1 := by rw [← hH2, Heap.size_push]
  generalize hDe : s₂.heap.objs.size = D at *
  generalize hCe : H2.objs.size = C at *
  have hlt : ∀ b o, s₂.heap.get? b = some o → @LT.lt Nat _ b D := fun b o e => hDe ▸ Heap.lt_size e
  have old : ∀ b o, s₂.heap.get? b = some o → h₁.get? b = some o := fun b o e => hsb₁.extBut b o (fun q => by have := hlt b o e; have q' : @Eq Nat b C := q; exact dn30 0xfbeff7042e000b8bcd040 (by k_ne) hC q this) (Heap.get?_push_of_some _ (hH2 ▸ Heap.get?_push_of_some _ e))
  have hDC : @Ne Nat D C := by exact dn20 0xfbfe00078bcd040 (by k_ne) hC
  have hacc : h₁.get? D = some (lst []) := hsb₁.extBut _ _ hDC (Heap.get?_push_of_some _ (hH2 ▸ hDe ▸ Heap.get?_push_size _ rfl))
  have none₀ : ∀ a, @LE.le Nat _ D a → h₀.get? a = none := fun a ha => by
    cases e : h₀.get? a with
    | none => rfl
    | some o' => exact absurd (hlt a o' (Fr₀.keep a o' e)) (Nat.not_lt.mpr ha)
  have hD₀ : h₀.get? D = none := none₀ _ (Nat.le_refl _)
  have hC₀ : h₀.get? C = none := none₀ _ (by exact dn20 0x3ed80078bcd040 (by k_ne) hC)
  have hLl : @LT.lt Nat _ L D := hDe ▸ Fr₀.ns.lt
  have hDL : @Ne Nat D L := by exact dn20 0xfbfe00077040 (by k_ne) hLl
  have hCL : @Ne Nat C L := by exact dn30 0xfbeff8080dc10b8bcd040 (by k_ne) hC hLl
  have hIl : @LT.lt Nat _ I D := by obtain ⟨o, e, _⟩ := hI0; exact hlt I o e
  have hCI : @Ne Nat I C := by exact dn30 0xfbeff8002dc10b8bcd040 (by k_ne) hC hIl
  have hDI : @Ne Nat I D := by exact dn20 0xfbfe01037040 (by k_ne) hIl
  have offD : ∀ p ∈ news, @Ne Nat p.1 D := fun p hp => by have := hlt _ _ (N p hp).1; exact dn20 0xfbfe01037040 (by k_ne) this
  have offC : ∀ p ∈ news, @Ne Nat p.1 C := fun p hp => by have := hlt _ _ (N p hp).1; exact dn30 0xfbeff8002dc10b8bcd040 (by k_ne) hC this
  have off3 : Off3 I C D news := Off3.of fun p hp => ⟨off p hp, offC p hp, offD p hp⟩
  have hlen : ps.length = vs.length := by have := hD.length; simpa [kdL] using this.symm
  have W := Walks.list (prog := prog) (w := w) hh I ax (Ne.symm hIx) vs.toArray
  have hst₁ : h₁.IsListIter I ax 0 ∧ h₁.IsList ax vs.toArray := ⟨by obtain ⟨o, e, r⟩ := hI0; exact ⟨o, old _ _ e, r⟩, ⟨_, old _ _ (N _ hm).1, rfl, _, rfl⟩⟩
  have loop : ∀ s₃ : Shared, s₃ = { s₂ with heap := h₁, toks := s₂.toks + ([] : List (Str × Value)).length } →
      codeAny (model prog w) A (.compLoop (.ListComp elt [⟨.Tuple [.Name x px, .Name x₂ px₂] kk tp, iter, [ct], 0⟩] scope pos) 0 (.ref I) (.ref D) (compEnvC scope cl C env)) (RR (.ref D) C) s₃ := by
    rintro s₃ rfl
    refine cpt_loop (fun k s' => ∃ h' tk i ys m', s' = { s₂ with heap := h', toks := tk } ∧ i ≤ vs.length ∧ k = vs.length + 1 - i ∧ IntsAre ys (F (ps.take i)) ∧ ys.length ≤ i ∧ (h'.IsListIter I ax i ∧ h'.IsList ax vs.toArray) ∧ Fr h₀ L h' m ∧ h'.Ns C m' ∧ News h₀ L h' ((D, lst ys) :: news)) ?_ (vs.length + 1)
      ⟨h₁, _, 0, [], _, rfl, Nat.zero_le _, rfl, by rw [List.take_zero, hF]; exact .nil, Nat.le_refl _, hst₁, Fr₀.keeps old, hns₁, fun p hp => ?_⟩
    · intro k s' hW8
      refine opqG fun G8 hG8 => ?_
      obtain ⟨h', tk, i, ys, m', rfl, hi, rfl, hys, hyl, hst', F', hn', N'⟩ := hW8
      refine hG8 ?_
      clear hG8 G8
      by_cases hlv : i < vs.length
      · refine W.item i _ _ _ (by simpa using hlv) hst' fun v h₂ tk₂ hPv hst₂ hk₂ => ?_
        have hv : vs[i]? = some v := by simpa using hPv
        refine opqG fun G8 hG8 => ?_
        obtain ⟨t, nt, ta, tb, a, b, rfl, htk, htm⟩ := pair_at hD hv
        refine hG8 ?_
        clear hG8 G8
        have hmem : (a, b) ∈ ps := List.mem_of_mem_take (i := i + 1) (by rw [htk]; simp)
        have N₂ : News h₀ L h₂ ((D, lst ys) :: news) := news_but N' hk₂ fun p hp => by
          rcases List.mem_cons.mp hp with rfl | hp
          · exact Ne.symm hDI
          · exact off p hp
        have ht : h₂.IsTuple t #[.int a ta, .int b tb] := ⟨_, (N₂ _ (.tail _ htm)).1, rfl, _, rfl⟩
        refine wpAny_letOwnedTupleGo_listiter hst₂.1 ?_
        refine kcp_assign (env := compEnvC scope cl C env) hh ht (lookup_relabel_local hx) (lookup_relabel_local hx₂) (by simp [compEnvC, relabel, hkind]) (hn'.at' fun o e => hk₂ _ o (by simpa using Ne.symm hCI) e) fun h₃ tk₃ hn₃ hs₃ => ?_
        refine opqG fun G8 hG8 => ?_
        obtain ⟨oC, heC, hoC⟩ := ns_obj hn₃
        obtain ⟨oI, eI, rI⟩ := hst₂.1
        refine hG8 ?_
        clear hG8 G8
        have heI : h₃.get? I = some oI := hs₃ I oI hCI eI
        have F₂ := fr_but F' hk₂ hIL hIh
        have F₃ : Fr h₀ L h₃ m := ⟨F₂.ns.at' fun o e => hs₃ L o (Ne.symm hCL) e, fun b o e => hs₃ b o (fun q => by have q' : b = C := q; rw [q', hC₀] at e; cases e) (F₂.keep b o e), F₂.above⟩
        have N₃ : News h₀ L h₃ ((I, oI) :: (C, oC) :: (D, lst ys) :: news) := fun p hp => by
          rcases List.mem_cons.mp hp with rfl | hp
          · exact ⟨heI, Ne.symm hIL, hIh⟩
          rcases List.mem_cons.mp hp with rfl | hp
          · exact ⟨heC, hCL, hC₀⟩
          refine ⟨hs₃ _ _ ?_ (N₂ p hp).1, (N₂ p hp).2⟩
          rcases List.mem_cons.mp hp with rfl | hp
          · exact hDC
          · exact offC p hp
        refine wpAny_mono (T (ps.take i) a b ta tb I oI C oC D _ ys h₃ tk₃ _ hmem hoC (by simp [hxx]) (by simp) F₃ N₃ off3 ⟨hCI, hDI, Ne.symm hDC⟩) (fun ok s₄ h₄ => ?_) fun _ _ e => e
        cases ok with
        | true =>
          simp only [if_true] at h₄ ⊢
          refine wpAny_mono h₄ (fun y s₅ h₅ => ?_) fun _ _ e => e
          refine opqG fun G8 hG8 => ?_
          obtain ⟨g, tk₅, nw, rfl, F₅, N₅, _, _, hnw, a', t', rfl, hF'⟩ := h₅
          refine hG8 ?_
          clear hG8 G8
          subst hnw
          have zI := (N₅ (I, oI) (.head _)).1
          have zC := (N₅ (C, oC) (.tail _ (.head _))).1
          have zD := (N₅ (D, lst ys) (.tail _ (.tail _ (.head _)))).1
          refine append_at (hsz := by show ys.toArray.size ≤ sizeLine; rw [List.size_toArray]; exact Nat.le_trans (Nat.le_trans hyl hi) hsz) zD fun g₂ hs₂ hD₂ => ?_
          refine ⟨vs.length + 1 - (i + 1), by exact dn20 0x3edf002f341c2f340bcd077040 (by k_ne) hlv, g₂, tk₅, i + 1, ys ++ [.int a' t'], _, rfl, hlv, rfl, by rw [htk, hF']; exact IntsAre.append hys (.cons _ _ .nil), by rw [List.length_append, List.length_singleton]; exact dn20 0x3edaf341bcd036040 (by k_ne) hyl,
            ⟨⟨oI, hs₂.extBut _ _ hDI zI, rI⟩, ⟨_, hs₂.extBut _ _ (offD _ hm) (N₅ _ (.tail _ (.tail _ (.tail _ hm)))).1, rfl, _, rfl⟩⟩, F₅.change hs₂ hDL hD₀, (hoC.ns zC).sameBut hs₂ (Ne.symm hDC), fun p hp => ?_⟩
          rcases List.mem_cons.mp hp with rfl | hp
          · exact ⟨hD₂.trans (congrArg some (lst_snoc ys _)), hDL, hD₀⟩
          · exact ⟨hs₂.extBut _ _ (offD p hp) (N₅ p (.tail _ (.tail _ (.tail _ hp)))).1, (N₅ p (.tail _ (.tail _ (.tail _ hp)))).2⟩
        | false =>
          simp only [Bool.false_eq_true, if_false] at h₄ ⊢
          refine opqG fun G8 hG8 => ?_
          obtain ⟨g, tk₅, nw, rfl, F₅, N₅, _, _, hnw, hF'⟩ := h₄
          refine hG8 ?_
          clear hG8 G8
          subst hnw
          have zI := (N₅ (I, oI) (.head _)).1
          have zC := (N₅ (C, oC) (.tail _ (.head _))).1
          refine ⟨vs.length + 1 - (i + 1), by exact dn20 0x3edf002f341c2f340bcd077040 (by k_ne) hlv, g, tk₅, i + 1, ys, _, rfl, hlv, rfl, by rw [htk, hF']; exact hys, by exact dn20 0x3edaf341036040 (by k_ne) hyl,
            ⟨⟨oI, zI, rI⟩, ⟨_, (N₅ _ (.tail _ (.tail _ (.tail _ hm)))).1, rfl, _, rfl⟩⟩, F₅, hoC.ns zC, fun p hp => N₅ p (.tail _ (.tail _ hp))⟩
      · obtain rfl : i = vs.length := Nat.le_antisymm hi (Nat.not_lt.mp hlv)
        refine W.done _ _ _ (by simpa using hst') fun h₂ tk₂ hk₂ => ?_
        rw [← hlen, List.take_length] at hys
        exact hRR _ _ h₂ tk₂ _ ys (fr_but F' hk₂ hIL hIh) (news_but N' hk₂ fun p hp => by
          rcases List.mem_cons.mp hp with rfl | hp
          · exact Ne.symm hDI
          · exact off p hp) offD (hn'.at' fun o e => hk₂ _ o (by simpa using Ne.symm hCI) e) hC₀ hCL (Ne.symm hDC) offC hys
    · rcases List.mem_cons.mp hp with rfl | hp
      · exact ⟨hacc, hDL, hD₀⟩
      · exact ⟨old _ _ (N p hp).1, (N p hp).2⟩
  exact codeAny_compStart_list (loop _ rfl) (W.self 0 _ _ _ hst₁ (loop _ rfl))
noncomputable def SrcPT (prog : Program) (w : World) (A : Around) (h₀ : Heap) (L : Addr) (m : Str → Option Value) (env : Env) (ct elt : PySem.Expr) (x x₂ : Str) (scope : Scope) (cl : List (Str × Addr)) (Fin : Shared → List Value → News0 → Prop) (xv : Value) (s₁ : Shared) : Prop :=
  ∃ ax vs nk news ps F, xv = .ref ax ∧ A.handled = none ∧ Fr h₀ L s₁.heap m ∧ News h₀ L s₁.heap news ∧ (ax, listOf vs.toArray nk) ∈ news ∧ DatAll news vs (kdL ps) ∧ vs.length ≤ sizeLine ∧ F [] = ([] : List Int) ∧
    ∀ s₂ : Shared, (∃ h, s₂ = { s₁ with heap := h }) → CptTurn prog w A h₀ L m env ct elt x x₂ scope cl s₂ news ps F ∧ ∀ ys, IntsAre ys (F ps) → Fin s₂ ys news
noncomputable def FinP (h₀ : Heap) (L : Addr) (m : Str → Option Value) (y : Str) (Q : Flow → Shared → Prop) (s : Shared) (ys : List Value) (news : News0) : Prop :=
  ∀ D h tk, Fr h₀ L h (fun z => if z = y then some (.ref D) else m z) → News h₀ L h ((D, lst ys) :: news) → (∀ p ∈ news, p.1 ≠ D) → Q .next { s with heap := h, toks := tk }
theorem Assign_cpt {Q : Flow → Shared → Prop} (F₀ : Fr h₀ L s.heap m) (hLe : env.locals = L)
    (hsw : swapsWith (.ListComp elt [⟨.Tuple [.Name x px, .Name x₂ px₂] kk tp, iter, [ct], 0⟩] scope pos) (some (.Name y py)) spos.line env = pure true)
    (hclos : closureFor scope env = pure cl) (hcell : ∀ z ∈ scope.names, z.2 ≠ .cell) (hkind : scope.kind = .function)
    (hnames : ∀ z ∈ scope.names, z.2 = .local → scope.names.lookup z.1 = some .local) (hx : scope.names.lookup x = some .local) (hx₂ : scope.names.lookup x₂ = some .local) (hxx : ¬ x = x₂)
    (hy : env.kindOf y = some .local) (hp : (env.scope.kind == .class || (env.scope.kind == .module && env.locals != env.globals)) = false)
    (h : wpAny (model prog w) A (eval iter env) (SrcPT prog w A h₀ L m env ct elt x x₂ scope cl (FinP h₀ L m y Q)) E s)
    (hs : ∀ x, foldedSetIterable iter env x = pure x := by intro _; rfl) :
    wpAny (model prog w) A (exec (.Assign [.Name y py] (.ListComp elt [⟨.Tuple [.Name x px, .Name x₂ px₂] kk tp, iter, [ct], 0⟩] scope pos) spos) env) Q E s := by
  subst hLe
  rw [exec_Assign_Name_used _ _ _ _ hsw]
  refine wpAny_bind (wpAny_standAt (wpAny_bind ?_))
  show wpAny _ A (do let _ ← comprehension (.ListComp elt [⟨.Tuple [.Name x px, .Name x₂ px₂] kk tp, iter, [ct], 0⟩] scope pos) scope env _ (newList []) false (eval iter env) (some (assign (.Name y py) env))) _ _ s
  refine wpAny_bind (wpAny_mono (wpAny_comprehension_free (use := some (assign (.Name y py) env)) (Q := fun _ s' => Q .next s') rfl hs hclos hkind hnames
    (wpAny_mono h (fun xv s₁ h₁ => ?_) fun _ _ e => e)) (fun _ s' hq => wpAny_pure (wpAny_pure hq)) fun _ _ e => e)
  obtain ⟨ax, vs, nk, news, ps, F, rfl, hh, F₁, N, hm, hD, hsz, hF, R⟩ := h₁
  have hl : s₁.heap.IsList ax vs.toArray := ⟨_, (N _ hm).1, rfl, _, rfl⟩
  have hlt : ax < s₁.heap.objs.size := Heap.lt_size (N _ hm).1
  refine wpAny_pyIter_list hl ?_
  have up : ∀ b o, s₁.heap.get? b = some o → (s₁.heap.push { cls := .type "list_iterator", data := .fields #[.ref ax, .int 0 0] }).get? b = some o := fun b o e => Heap.get?_push_of_some _ e
  obtain ⟨T, Fn⟩ := R { s₁ with heap := s₁.heap.push { cls := .type "list_iterator", data := .fields #[.ref ax, .int 0 0] } } ⟨_, rfl⟩
  refine cpt_block hh ⟨_, Heap.get?_push_size _ rfl, rfl, rfl⟩ (Ne.symm (Nat.ne_of_lt hlt)) hm hD hsz hF hcell hkind hx hx₂ hxx (F₁.keeps up) (N.grown up) (Nat.ne_of_lt F₁.ns.lt) (next_is_new F₁) (fun p hp => Nat.ne_of_lt (Heap.lt_size (N p hp).1)) T ?_
  intro D C h' tk m' ys F' N' oD hn hC₀ hCL hCD offC hys
  show wpAny _ A (assign (.Name y py) env (.ref D)) _ _ _
  refine wpAny_assign_Name (wpAny_storeName_local hy F'.ns (fun h₂ hn₂ hs₂ => ?_) hp)
  have hL₀ : h₀.get? env.locals = none := Heap.get?_none_of_le F'.above
  have F₂ : Fr h₀ env.locals h₂ (fun z => if z = y then some (.ref D) else m z) := ⟨hn₂, fun b o e => hs₂.extBut b o (fun q => by rw [q, hL₀] at e; cases e) (F'.keep b o e), F'.above⟩
  refine ⟨m', hn.sameBut hs₂ hCL, fun h'' hs'' => Fn ys hys D h'' _ (F₂.change hs'' hCL hC₀) (fun p hp => ?_) oD⟩
  have z : h₂.get? p.1 = some p.2 := hs₂.extBut _ _ (N' p hp).2.1 (N' p hp).1
  refine ⟨hs''.extBut _ _ ?_ z, (N' p hp).2⟩
  rcases List.mem_cons.mp hp with rfl | hp
  · exact Ne.symm hCD
  · exact offC p hp
end
end Mine
end
section
open PySem PySem.W PyProof.Rows
namespace Mine
theorem freshC18 : True := by
  k_with_none
  w_top off
  (try (have _h : ∀ (M : Model) (A : Around) (Q : Flow → _) (E : Value → _) (s : Shared) (e : Env), wpAny M A (execs [] e) Q E s := by (intros; walk1; fail "no")))
  k_with "omega" => (first | with_reducible assumption | exact rm1 (by with_reducible assumption) rfl | exact rm2 (by with_reducible assumption) rfl | exact rm3 (by with_reducible assumption) rfl | exact rm4 (by with_reducible assumption) rfl | exact rm0 (by with_reducible assumption) | with_reducible exact ⟨by with_reducible assumption, by with_reducible assumption⟩ | with_reducible exact Or.inl (by with_reducible assumption) | with_reducible exact Or.inr (by with_reducible assumption) | with_reducible exact i1 (by decide) | with_reducible exact i2 | with_reducible exact i3 | with_reducible exact i4 (by decide) | with_reducible exact j1 (by with_reducible assumption) (by decide) | with_reducible exact j2 (by with_reducible assumption) (by decide) | with_reducible exact i5 (by with_reducible assumption) (by decide) | with_reducible exact i6 (by with_reducible assumption) (by decide) | with_reducible exact i7 (by with_reducible assumption))
  trivial
theorem wordsC18_1 : True := by
  k_with "call type:type" => ((with_reducible show wpAny _ _ (call _ [Value.bytes _ _]) _ _ _); refine PySem.call_type_of (Tx := "bytes") rfl (by decide +kernel) ?_)
  k_with "k_all" => (exact neLow (by assumption))
  k_with "k_steps" => (repeat' ((fail_if_success (with_reducible show InvEndN _ _ _ _ _ _ _)); (fail_if_success (with_reducible show InvEndG _ _ _ _ _ _)); (fail_if_success (with_reducible show UnrEndW _ _ _ _ _ _)); (fail_if_success (with_reducible show wpAny _ _ (pyIter _) _ _ _)); (fail_if_success (with_reducible show wpAny _ _ (call (Value.builtin "len") [Value.ref _]) _ _ _)); (fail_if_success (with_reducible show wpAny _ _ (call (Value.ref _) _) _ _ _)); (fail_if_success (with_reducible show wpAny _ _ (eval (Expr.ListComp _ _ _ _) _) _ _ _)); (fail_if_success (with_reducible show wpAny _ _ (compareOp _ (Value.ref _) (Value.ref _)) _ _ _)); (fail_if_success (with_reducible show wpAny _ _ (compareOp _ (Value.bytes _ _) _) _ _ _)); (fail_if_success (with_reducible show wpAny _ _ (compareOp _ (readV _ _) _) _ _ _)); (fail_if_success (with_reducible show wpAny _ _ (call (Value.builtin "sum") _) _ _ _)); (fail_if_success (with_reducible show wpAny _ _ (call (Value.builtin "str.join") _) _ _ _)); (fail_if_success (with_reducible show wpAny _ _ (exec (Stmt.Assign _ (Expr.ListComp _ _ _ _) _) _) _ _ _)); (fail_if_success (with_reducible show wpAny _ _ (subscriptTail _ _ (Value.ref _) _) _ _ _)); (fail_if_success (with_reducible show wpAny _ _ (binaryOp Operator.Add _ _) _ _ _)); (fail_if_success (with_reducible show LCg.CompEnd _ _ _ _ _ _ _ _ _ _ _ _ _ _)); (fail_if_success (with_reducible show LCg.CompSrc _ _ _ _ _ _ _ _ _ _ _ _ _ _)); (first | (k_unfold; (try dsimp only)) | (k_end; kc_close) | walk1 | (dsimp only; walk1) | (leave1; walk_say "STEP leave1"; (try dsimp only)) | fail "no step")))
  k_with "ite" => (first | with_reducible refine ite_tt ?_ | with_reducible refine ite_ff ?_ | (with_reducible refine ieq_yes ?_ ?_; (focus (first | lia | omega))) | (with_reducible refine ieq_no ?_ ?_; (focus (first | lia | omega))) | (with_reducible refine ine_yes ?_ ?_; (focus (first | lia | omega))) | (with_reducible refine ine_no ?_ ?_; (focus (first | lia | omega))) | (with_reducible refine idec_yes ?_ ?_; (focus (first | lia | omega))) | (with_reducible refine idec_no ?_ ?_; (focus (first | lia | omega))))
  k_with "call builtin:len" => (k_here; (with_reducible show wpAny _ _ (call (Value.builtin "len") [Value.str _ _]) _ _ _); k_dflt (refine P.len_str ?lnf ?_; (case lnf => (first | lia | omega))))
  k_with "k_all" => (with_reducible assumption)
  k_with "k_all" => (exact neOfLt (by assumption))
  trivial
theorem sg_len : signsS.length = 64 := by decide +kernel
theorem wordsC18_3 : True := by
  k_with "subscriptTail Name Name str int" => (k_here; (with_reducible show wpAny _ _ (subscriptTail _ _ (Value.str (Str.ofString _) _) (Value.int _ _)) _ _ _); k_dflt (refine' KXi.item (x := signsS) (n := 64) sg_len ?sg1 ?sg2 ?sg3 ?_; (case sg1 => (first | lia | omega)); (case sg2 => (first | lia | omega)); (case sg3 => decide); k_whole); intro _)
  k_with "subscriptTail Name Name str int" => (k_here; (with_reducible show wpAny _ _ (subscriptTail _ _ (Value.str _ _) (Value.int _ _)) _ _ _); (fail_if_success (with_reducible show wpAny _ _ (subscriptTail _ _ (Value.str (Str.ofString _) _) (Value.int _ _)) _ _ _)); k_dflt (refine' KXi.item rfl ?sg1 ?sg2 ?sg3 ?_; (case sg1 => (first | lia | omega)); (case sg2 => (first | lia | omega)); (case sg3 => (first | lia | omega)); k_whole); intro _)
  trivial
set_option maxRecDepth 100000
set_option maxHeartbeats 8000000
theorem wordsC18_4 : True := by
  k_with "compareOp NotEq str str" => (k_here; first | (refine ne_it_t (by assumption) ?_) | (refine ne_it_f (by assumption) ?_))
  k_with "call builtin:str.index" => (k_here; k_dflt (refine index_sg (by assumption) (by (first | lia | omega)) (by (first | lia | omega)) (by assumption) ?_); intro _ _)
  k_with "call builtin:str.count" => (k_here; k_dflt (refine count_sg ?_); intro _ _)
  k_with "spliced" => (k_here; (with_reducible show wpAny _ _ (spliced (backTo _ (starEach (_ :: _) _))) _ _ _); k_dflt (refine' args_pure ?w8a ?w8F ?w8p ?_; (case w8a => exact rfl); (case w8F => k_asm); (case w8p => exact rfl); k_whole); (dsimp only [PVK, List.cons_append, List.nil_append]); intros)
  k_with "same" => (repeat (first | with_reducible exact sameE | ((with_reducible refine kstJ ?_ ?_ ?_); rfl; rfl) | ((with_reducible refine updJ ?_ ?_); rfl)))
  k_with "storeName" => (k_here; k_dflt (first | (refine' storeJ ?F ?N ?_ ?a ?b; (case F => k_asm); (case N => k_asm); (case a => rfl); (case b => rfl); k_whole; intro _ _ _ _ _ _) | (refine' storeV ?F ?N ?_ ?a ?b; (case F => k_asm); (case N => k_asm); (case a => rfl); (case b => rfl); k_whole; intro _ _ _ _)); (try k_sweep))
  k_with "execs cons" => (k_here; (with_reducible show wpAny _ _ (execs (Stmt.If _ _ _ _ :: _) _) _ _ _); k_dflt (first | (refine' if_yes ?w9F ?w9p ?w9P ?_ ?w9a ?w9b; (case w9F => k_asm); (case w9p => exact rfl); (case w9P => first | (first | lia | omega) | (first | exact rfl | assumption | exact ⟨by first | (first | lia | omega) | assumption, by first | exact rfl | assumption | (first | lia | omega)⟩)); (case w9a => exact rfl); (case w9b => first | dsimp only [List.cons_append, List.nil_append] | exact rfl); k_whole; intro _) | (refine' if_no ?w9F ?w9p ?w9P ?_ ?w9a ?w9b; (case w9F => k_asm); (case w9p => exact rfl); (case w9P => first | (first | lia | omega) | (first | exact rfl | assumption | exact Or.inl (by first | (first | lia | omega) | assumption | exact rfl) | exact Or.inr (by first | (first | lia | omega) | assumption | exact rfl))); (case w9a => exact rfl); (case w9b => first | dsimp only [List.cons_append, List.nil_append] | exact rfl); k_whole; intro _)))
  k_with "execs cons" => (k_here; (with_reducible show wpAny _ _ (execs (Stmt.Assign [Expr.Name _ _] _ _ :: _) _) _ _ _); k_dflt (refine' as_int ?w9F ?w9N ?w9p ?_ ?w9a ?w9b ?w9c; (case w9F => k_asm); (case w9N => k_asm); (case w9p => exact rfl); (case w9a => exact rfl); (case w9b => exact rfl); (case w9c => exact rfl); k_whole; intro _ _ _ _ _ _; (try k_sweep)))
  trivial
open HD in
open PyProof.Rows.LCg in
theorem hd_law : PySem.Challenge.rw_kt0099_01.Holds := by
  w_on
  refine holds_law HD.said fun said => ?_
  refine PySem.W.holds_open (q := view) (loose := loose) (Xt := Xt) (XP := XL view []) (Yf := Hook.obs HK) (Ya := Hook.val HK) (YP := Hook.says HK) (N := 6000) left' (Hook.of HK) (Hook.keeps HK) xt1 XL.keeps (by rfl) (by rfl) (by rfl) xt2 (by rfl) (by assumption) okk bare promised ?hc
  case hc =>
    k_fill
    intro w s₀ s₁ mg mb G Y fa o pm cd doc dV kV ho hd hcd hD hmg hg args vals as hpre hlay hrd hwl hlo
    have KX := kIn_of Y
    have X := (Ground.X G).1
    have V := (Ground.X G).2
    have GL := glob_more (Ground.glob G HD.nOk HD.iNone) V
    refine Ground.open G ?_
    intro T B D TE TW
    try (refine guard_noD D (by decide +kernel) ?_; clear D)
    obtain ⟨_, _, M⟩ := bmod_of_top T
    have TA := at_of_top T
    try (obtain ⟨_, _, he, B0⟩ := based_of_top T rfl hmg ho hd; have he' : cd = _ := he; subst he'; clear he)
    clear hmg
    wrow_args hpre hlay hrd hwl hlo
    first | refine callC_kw (enter_call ?_) | refine enter_call ?_ | refine callC_kw (enter_callW ?_) | refine enter_callW ?_
    w_top on
    try refine codeAny_mono ?_ (fun _ _ g => GoodW.toG g)
    have K0 := below_caller (Top.heap T)
    w_call any ho hd hcd hD T F
    clear hd TA
    k_drop
    (all_goals try k_fold)
    refine let_A ?_
    intro A9
    rename IntsAre _ _ => hI0
    rename Heap.IsList _ _ _ => hL0
    rename List Int => ns
    have hn0 : ns.length ≤ 63 := by exact dn10 0xfb603fb00ffad00d00fec (by k_ne) ‹_›
    k_steps
    refine' Con.useA (c_law_row _ _ _ ?c1_0 ?c1_1 ?c1_2) ?kh1 ?kf1 ?ka1 ?kb1 ?kc1 ?kd1 ?ke1 ?kg1 ?ki1 ?kj1 ?_
    (case kh1 => exact rfl)
    (case kf1 => exact rfl)
    (case ka1 => k_asm)
    (case kb1 => k_asm)
    (case kc1 => k_asm)
    (case kd1 => k_asm)
    (case ke1 => k_asm)
    (case kg1 => exact rfl)
    (case c1_0 => assumption)
    (case c1_1 => assumption)
    (case c1_2 => assumption)
    (case ki1 => ((try dsimp only [A9]); ktr_room))
    (case kj1 => ((try dsimp only [A9]); ktr_units))
    k_whole
    intro r' rs' n' lt1' hI' h' tk' F' N'
    (try k_sweep)
    simp only [AllLt, and_true] at lt1'
    have hr0 := row_len ns
    have hr1 := hI'.length
    k_steps
    k_dflt (refine' PyProof.Rows.LSm.sum_ints ?su1 ?su2 ?su3 ?su4 hI0 ?_; (case su1 => k_asm); (case su2 => k_asm); (case su3 => exact rfl); (case su4 => is_list); k_whole)
    intro h' tk' t' F' N'
    (try k_sweep)
    k_steps
    k_dflt (refine' (LCg.ListComp_U (F₀ := ?lcF) ?lc1 ?lc2 ?lc3 ?lc4 ?lc5 ?_))
    (case lcF => k_asm)
    (case lc3 => exact rfl)
    (case lc5 => exact rfl)
    (case lc1 => exact rfl)
    (case lc2 => decide)
    (case lc4 => decide)
    k_steps
    refine' (LCg.CompSrc.ledger ?cl1 ?cl2 ?cl3 ?cl4 ?cl5 ?_)
    (case cl1 => exact rfl)
    (case cl2 => k_asm)
    (case cl3 => k_asm)
    (case cl4 => k_mem)
    (case cl5 => rw [PySem.sizeLine_eq]; simp only [List.size_toArray]; exact dn20 0x3efb6000000000001000000b41e00076700 (by k_ne) hr0 hr1)
    k_whole
    intro g'
    refine' kct_list (fun k => Txt.item signsS k) hI' (fun k' t' I' oI' C' oC' D' m' ys' h' tk' E' hk' hC' hx' F' N' off' ne' mk' => ?turn1) ?done1
    (case turn1 =>
      have hk0 := row_rng _ _ hk'
      simp only [LCg.Off3, and_true] at off'
      k_steps
      (first | walk1 | (dsimp only; walk1))
      k_steps)
    show ∀ ys, _ → _ → _
    intro ys hys hlys D8 h8 tk8 F8 N8 off8
    have hm3 := fm3 ns.sum
    k_steps
    k_dflt (refine' KT.join_1 (g := fun k => Txt.item signsS k) ?jn1 hys ?jn2 ?jn3 ?_; (case jn1 => exact News.isList N8 (.head _)); (case jn2 => intro a _; rfl); (case jn3 => exact dn10 0x3ed8000000000000400002d036700 (by k_ne) hr0); k_whole)
    intro t9 k9 e9
    k_steps
    k_dflt (refine' KTb.item_tup (ws := tailT) (isTup_of ?hN ?hm ?hc ?hd) ?hw ?h0 ?h1 ?hf ?_; (case hN => k_asm); (case hm => k_mem); (case hc => rfl); (case hd => rfl); (case hw => exact .cons _ _ (.cons _ _ (.cons _ _ .nil))); (case h0 => exact hm3.1); (case h1 => exact hm3.2); (case hf => exact Int.lt_trans hm3.2 (by decide)); k_whole)
    intro _ _
    k_steps
    k_dflt (refine' add_row (ns := ns) (r := (ns.sum.fmod 3).toNat) ?_; k_whole)
    intro t7 k7
    have hr3 : (ns.sum.fmod 3).toNat < 3 := by (first | lia | omega)
    have hx20 := cl_len ns hr3
    have hxa := cl_asc ns hr3
    have henc := enc_cl ns hr3
    have hrd := rd_cl ns hr3
    have hst := rd_st ns ns hr3
    have hbd := rd_bad ns ns hr3
    have hcd := cl_codes ns ns hr3
    have hsg := cl_sign ns hr3
    have hlr := left_rng ns ns hr3
    generalize clS ns (ns.sum.fmod 3).toNat = x at *
    rename NestMark => nm9
    clear nm9
    rename News _ _ _ _ => N9
    replace N9 := newsTl (newsTl N9)
    k_steps
    rename News _ _ _ _ => N9
    k_dflt (refine' item_three (isTup_of N9 (.head _) rfl rfl) hm3.1 hm3.2 ?_; k_whole)
    intro a9 ha9
    obtain ⟨v9, k9, hm9, hI9⟩ := of_three N9 ha9 (.tail _ (.tail _ (.tail _ (.head _)))) (.tail _ (.tail _ (.head _))) (.tail _ (.head _))
    replace N9 := nw_pick N9 hm9
    rename Fr _ _ _ _ => F9
    have hvl := vs_len ns (ns.sum.fmod 3).toNat
    have hvr := vs_rng ns (ns.sum.fmod 3).toNat
    k_dflt (refine' kmk_add_ints F9 N9 ?ad1 ?ad2 hI' hI9 ?_ ?ad3; (case ad1 => exact N9.isList (.tail _ (.head _))); (case ad2 => exact N9.isList (.head _)); (case ad3 => rw [PySem.sizeLine_eq]; have := tailN_len (ns.sum.fmod 3).toNat; exact dn20 0x3efb6000000000001000000b6f040d8f076700 (by k_ne) hr0 this); k_whole)
    intro r2 us2 h2 F2 N2 lt2 hI2
    replace N2 := nw_snd N2
    clear F9 N9
    k_steps
    refine' Con.useA (c_law_octets _ _ _ _ ?c2_0 ?c2_1 ?c2_2 ?c2_3) ?kh2 ?kf2 ?ka2 ?kb2 ?kc2 ?kd2 ?ke2 ?kg2 ?ki2 ?kj2 ?_
    (case kh2 => exact rfl)
    (case kf2 => exact rfl)
    (case ka2 => k_asm)
    (case kb2 => k_asm)
    (case kc2 => k_asm)
    (case kd2 => k_asm)
    (case ke2 => k_asm)
    (case kg2 => exact rfl)
    (case c2_0 => exact .head _)
    (case c2_1 => exact hI2)
    (case c2_2 => exact hvl)
    (case c2_3 => exact hvr)
    (case ki2 => ((try dsimp only [A9]); ktr_room))
    (case kj2 => ((try dsimp only [A9]); ktr_units))
    k_whole
    intro t2 h' tk' F' N'
    (try k_sweep)
    k_steps
    refine' Con.useA (c_b64encode _ _ ?c3_0) ?kh3 ?kf3 ?ka3 ?kb3 ?kc3 ?kd3 ?ke3 ?kg3 ?ki3 ?kj3 ?_
    (case kh3 => exact rfl)
    (case kf3 => exact rfl)
    (case ka3 => k_asm)
    (case kb3 => k_asm)
    (case kc3 => k_asm)
    (case kd3 => k_asm)
    (case ke3 => k_asm)
    (case kg3 => exact rfl)
    (case c3_0 => exact oct_size hvl)
    (case ki3 => ((try dsimp only [A9]); ktr_room))
    (case kj3 => ((try dsimp only [A9]); ktr_units))
    k_whole
    intro t3 h' tk' F' N'
    (try k_sweep)
    k_steps
    refine' Con.useA (c_law_bytes _ _ ?c4_0 ?c4_1) ?kh4 ?kf4 ?ka4 ?kb4 ?kc4 ?kd4 ?ke4 ?kg4 ?ki4 ?kj4 ?_
    (case kh4 => exact rfl)
    (case kf4 => exact rfl)
    (case ka4 => k_asm)
    (case kb4 => k_asm)
    (case kc4 => k_asm)
    (case kd4 => k_asm)
    (case ke4 => k_asm)
    (case kg4 => exact rfl)
    (case c4_0 => exact hxa)
    (case c4_1 => (show x.length ≤ 400); exact dn10 0x3ed8642c036800 (by k_ne) hx20)
    (case ki4 => ((try dsimp only [A9]); ktr_room))
    (case kj4 => ((try dsimp only [A9]); ktr_units))
    k_whole
    intro t4 h' tk' F' N'
    (try k_sweep)
    (refine ne_same henc ?_)
    k_steps
    refine' ConS.useA (c_law_read _ _ _ ?c5_0 ?c5_1) ?kh5 ?kf5 ?ka5 ?kb5 ?kc5 ?kd5 ?ke5 ?km5 ?kn5 ?kg5 ?ki5 ?kj5 ?_
    (case kh5 => exact rfl)
    (case kf5 => exact rfl)
    (case ka5 => k_asm)
    (case kb5 => k_asm)
    (case kc5 => k_asm)
    (case kd5 => k_asm)
    (case ke5 => k_asm)
    (case km5 => k_asm)
    (case kn5 => k_asm)
    (case kg5 => exact rfl)
    (case c5_0 => exact hxa)
    (case c5_1 => (show x.length ≤ 400); exact dn10 0x3ed8642c036800 (by k_ne) hx20)
    (case ki5 => ((try dsimp only [A9]); ktr_room))
    (case kj5 => ((try dsimp only [A9]); ktr_units))
    k_whole
    intro t5 h' tk' F' N'
    (try k_sweep)
    k_steps
    (refine ne_read hrd ?_)
    k_steps
    have hy64 := st_len ns hx20
    have hya := st_asc ns hxa
    have hK20 := kd_len ns hx20
    have hKr := kd_rng ns x
    refine' Con.useA (c_law_strewn _ _ (by exact hxa) (by exact hx20) _ _ _ ?c6_0 ?c6_1 ?c6_2) ?kh6 ?kf6 ?ka6 ?kb6 ?kc6 ?kd6 ?ke6 ?kg6 ?ki6 ?kj6 ?_
    (case kh6 => exact rfl)
    (case kf6 => exact rfl)
    (case ka6 => k_asm)
    (case kb6 => k_asm)
    (case kc6 => k_asm)
    (case kd6 => k_asm)
    (case ke6 => k_asm)
    (case kg6 => exact rfl)
    (case c6_0 => assumption)
    (case c6_1 => exact hI0)
    (case c6_2 => exact hn0)
    (case ki6 => ((try dsimp only [A9]); ktr_room))
    (case kj6 => ((try dsimp only [A9]); ktr_units))
    k_whole
    intro r6 lk vk n6 tS rs6 hsub6 hlk6 hr6 hlt6 hD6 h' tk' F' N'
    (try k_sweep)
    have hc2 := hsub6 _ (.tail _ (.tail _ (.head _)))
    have hc1 := hsub6 _ (.tail _ (.tail _ (.tail _ (.head _))))
    rename News _ _ _ _ => N6
    replace N6 := led_two2 N6 hc2 hc1
    generalize (stF ns x (x.length + 1)).1 = y at *
    generalize (stF ns x (x.length + 1)).2 = K at *
    obtain ⟨qk7, bs7, cs7, ms7, hq1, hq2, hq3, hq4, hq5, hq6, hq7, hq8⟩ := hcd
    k_steps
    refine' Con.useA (c_seqm _ _ _ _ ?c7_0 ?c7_1) ?kh7 ?kf7 ?ka7 ?kb7 ?kc7 ?kd7 ?ke7 ?kg7 ?ki7 ?kj7 ?_
    (case kh7 => exact rfl)
    (case kf7 => exact rfl)
    (case ka7 => k_asm)
    (case kb7 => k_asm)
    (case kc7 => k_asm)
    (case kd7 => k_asm)
    (case ke7 => k_asm)
    (case kg7 => exact rfl)
    (case c7_0 => exact hy64)
    (case c7_1 => exact all_asc hya)
    (case ki7 => ((try dsimp only [A9]); ktr_room))
    (case kj7 => ((try dsimp only [A9]); ktr_units))
    k_whole
    intro sf8 dx8 db8 sj8 sp8 ob8 kvs8 t81 t82 t83 t84 t85 t86 t87 t88 t89 t80 l81 l82 rs8 hl81 hl82 hl83 hl84 hkv8 hkl8 hB8 hsub8 hdb8 hsf8 hdx8 hsj8 h' tk' F' N'
    (try k_sweep)
    k_steps
    rename News _ _ _ _ => N8
    replace N8 := newsTl N8
    refine' Con.useA (c_goc _ _ _ _ _ kvs8 x y _ _ _ _ _ _ _ _ _ _ _ _ _ (.ref sp8) hl81 hl82 hl83 hkv8 hB8 (Nat.le_trans hx20 (by decide)) hy64 qk7 bs7 cs7 hq1 hdx8 hq2 hq3 hq4 hq5 ms7 hq6 hq7 ) ?kh8 ?kf8 ?ka8 ?kb8 ?kc8 ?kd8 ?ke8 ?kg8 ?ki8 ?kj8 ?_
    (case kh8 => exact rfl)
    (case kf8 => exact rfl)
    (case ka8 => k_asm)
    (case kb8 => k_asm)
    (case kc8 => k_asm)
    (case kd8 => k_asm)
    (case ke8 => k_asm)
    (case kg8 => exact rfl)
    (case ki8 => ((try dsimp only [A9]); ktr_room))
    (case kj8 => ((try dsimp only [A9]); ktr_units))
    k_whole
    intro r9 vt9 n9 rs9 hsub9 hne9 hD9 h' tk' F' N'
    (try k_sweep)
    rw [hq8] at hD9
    have hlk9 := hsub9 _ (hsub8 _ (.tail _ (.head _)))
    have hc29 := hsub9 _ (hsub8 _ (.tail _ (.tail _ (.head _))))
    have hc19 := hsub9 _ (hsub8 _ (.tail _ (.tail _ (.tail _ (.head _)))))
    rename News _ _ _ _ => N9
    replace N9 := led_one (led_two N9 hc29 hc19) (.tail _ (.tail _ hlk9))
    k_steps
    refine' Con.useA (c_law_codes _ _ _ _ hx20 hy64 lk vk n6 K ?c9_0 ?c9_1 ?c9_2) ?kh9 ?kf9 ?ka9 ?kb9 ?kc9 ?kd9 ?ke9 ?kg9 ?ki9 ?kj9 ?_
    (case kh9 => exact rfl)
    (case kf9 => exact rfl)
    (case ka9 => k_asm)
    (case kb9 => k_asm)
    (case kc9 => k_asm)
    (case kd9 => k_asm)
    (case ke9 => k_asm)
    (case kg9 => exact rfl)
    (case c9_0 => exact .tail _ (.head _))
    (case c9_1 => exact hD6.mono fun p hp => .tail _ (.tail _ (.tail _ (.tail _ (hsub9 p (hsub8 p (.tail _ (.tail _ (.tail _ (.tail _ hp))))))))))
    (case c9_2 => exact Nat.le_trans hK20 (by decide))
    (case ki9 => ((try dsimp only [A9]); ktr_room))
    (case kj9 => ((try dsimp only [A9]); ktr_units))
    k_whole
    intro r0 vt0 n0 rs0 hsub0 hne0 hD0 hok0 h' tk' F' N'
    (try k_sweep)
    k_steps
    rename News _ _ _ _ => N0
    (refine lists_same N0 (.tail _ (hsub0 _ (.head _))) rfl rfl hD9 (fun p hp => .tail _ (hsub0 _ (.tail _ (.tail _ (.tail _ (.tail _ hp)))))) (.head _) rfl rfl hD0 (fun p hp => .tail _ hp) rfl hok0 (by ((try dsimp only [A9]); ktr_units)) ?_)
    replace N0 := newsTl (led_one (led_two N0 (hsub0 _ (.tail _ (.tail _ (.head _)))) (hsub0 _ (.tail _ (.tail _ (.tail _ (.head _)))))) (.tail _ (.tail _ (hsub0 _ (.tail _ (.head _))))))
    k_steps
    k_dflt (refine' (Assign_cpt ?laF ?la1 ?la2 ?la3 ?la4 ?la5 ?la6 ?la7 ?la8 ?la9 ?la10 ?la11 ?_))
    (case laF => k_asm)
    (case la1 => exact rfl)
    (case la3 => exact rfl)
    (case la2 => exact rfl)
    (case la4 => decide)
    (case la5 => exact rfl)
    (case la6 => decide)
    (case la7 => exact rfl)
    (case la8 => exact rfl)
    (case la9 => decide)
    (case la10 => exact rfl)
    (case la11 => exact rfl)
    k_steps
    rename Fr _ _ _ _ => F0
    have hD0' : DatAll rs0 vk (kdL K) := hD6.mono fun p hp => hsub0 p (.tail _ (.tail _ (.tail _ (.tail _ (hsub9 p (hsub8 p (.tail _ (.tail _ (.tail _ (.tail _ hp))))))))))
    have hvk : vk.length ≤ 20 := by have := hD6.length; simp only [kdL, List.length_map] at this; exact dn20 0x3efb6801e00076800 (by k_ne) hK20 this
    refine ⟨lk, vk, n6, _, K, leftF x, rfl, rfl, F0, N0, .head _, hD0'.mono (fun p hp => .tail _ (.tail _ (.tail _ hp))), Nat.le_trans hvk (by rw [PySem.sizeLine_eq]; decide), rfl, ?_⟩
    rintro s₂ ⟨g, rfl⟩
    refine ⟨?turn2, ?done2⟩
    (case turn2 =>
      intro pre a b ta tb I' oI' C' oC' D' m' ys' h7 tk7 E' hab hC' hx' hy' F7 N7 off' ne'
      have hka := hKr _ hab
      have hk0 : 0 ≤ a := hka.1
      have hk1 : a < (x.length : Int) := hka.2
      have off9 := off'
      simp only [LCg.Off3, and_true] at off'
      clear F0 N0
      by_cases hb : (Txt.item x a == Str.ofString "=") = true
      · k_steps
        exact LCg.CompEnd.intro F7 N7 _ (fun p hp => hp) off9 trivial ⟨rfl, left_no hb⟩
      · k_steps
        exact LCg.CompEnd.intro F7 N7 _ (fun p hp => hp) off9 trivial ⟨rfl, _, _, rfl, left_yes hb⟩)
    (case done2 =>
      intro ys9 hI9 D9 h9 tk9 F9 N9 off9
      dsimp only
      clear F0 N0
      have hl9 := hI9.length
      have hll := left_len x K
      have hMk := kstMark
      have hfm : (((leftF x K).length : Nat) : Int).fmod 4 = (((leftF x K).length % 4 : Nat) : Int) := by rw [Int.fmod_eq_emod_of_nonneg _ (by decide)]; exact dn10 0x3bd33400cd0d00 (by k_ne)
      have hvl2 : vk.length = K.length := by have := hD6.length; simp only [kdL, List.length_map] at this; exact this
      refine fr_let F9 ?_
      clear F9
      intro mf9 F9
      refine cutM 2 F9 N9 (fun (c : Bool × Int × Tok) y => if y = Str.ofString "full" then some (.bool c.1) else if y = Str.ofString "over" then some (.int c.2.1 c.2.2) else mf9 y) (fun c => c.1 = decide ((leftF x K).length % 4 = 0 ∨ 3 < (leftF x K).length % 4 + x.cps.toList.count 61)) ?sA ?sB
      case sA =>
        dsimp only [List.take, List.drop]
        intro R2 hR2 _
        k_steps
        rename News _ _ _ _ => N7
        refine kst_len N7 (.head _) hl9 (by exact dn20 0xfbeebf0aed01d80076800 (by k_ne) hK20 hll) ?_
        by_cases hz : (leftF x K).length % 4 = 0
        · k_steps
          rename Fr _ _ _ _ => F7
          rename News _ _ _ _ => N7
          exact hR2 (_, _, _) _ _ F7 N7 (Eq.trans (b := true) (by show ((((leftF x K).length : Nat) : Int).fmod 4 == 0) = true; rw [hfm, hz]; rfl) (decide_eq_true (Or.inl hz)).symm)
        by_cases hf : 3 < (leftF x K).length % 4 + x.cps.toList.count 61
        · k_steps
          walk1
          k_steps
          rename Fr _ _ _ _ => F7
          rename News _ _ _ _ => N7
          exact hR2 (_, _, _) _ _ F7 N7 (Eq.trans (b := true) (decide_eq_true (by rw [hfm]; omega)) (decide_eq_true (Or.inr hf)).symm)
        · k_steps
          walk1
          k_steps
          rename Fr _ _ _ _ => F7
          rename News _ _ _ _ => N7
          exact hR2 (_, _, _) _ _ F7 N7 (Eq.trans (b := false) (decide_eq_false (by rw [hfm]; omega)) (decide_eq_false (fun h => h.elim hz hf)).symm)
      case sB =>
        clear F9 N9
        dsimp only [List.take, List.drop]
        intro c2
        refine match c2 with | ⟨b2, i2, t2⟩ => ?_
        intro h2 k2 F9 N9 hb2
        dsimp only at hb2 F9
        refine cutM 1 F9 N9 (fun (_ : Unit) y => if y = Str.ofString "full" then some (.bool b2) else if y = Str.ofString "over" then some (.int i2 t2) else mf9 y) (fun _ => True) ?sC ?sD
        case sC =>
          dsimp only [List.take, List.drop]
          intro R2 hR2 _
          cases b2
          · have hfull := of_decide_eq_false hb2.symm
            clear hb2
            refine fr_let F9 ?_
            clear F9
            intro mf2 F9
            k_steps
            refine' ConS.useA (c_law_read _ _ _ ?c16_0 ?c16_1) ?kh16 ?kf16 ?ka16 ?kb16 ?kc16 ?kd16 ?ke16 ?km16 ?kn16 ?kg16 ?ki16 ?kj16 ?_
            (case kh16 => exact rfl)
            (case kf16 => exact rfl)
            (case ka16 => k_asm)
            (case kb16 => k_asm)
            (case kc16 => k_asm)
            (case kd16 => k_asm)
            (case ke16 => k_asm)
            (case km16 => k_asm)
            (case kn16 => k_asm)
            (case kg16 => exact rfl)
            (case c16_0 => exact hya)
            (case c16_1 => (show y.length ≤ 400); exact dn10 0x3ed8642c036040b00 (by k_ne) hy64)
            (case ki16 => ((try dsimp only [A9]); ktr_room))
            (case kj16 => ((try dsimp only [A9]); ktr_units))
            k_whole
            intro t6 h' tk' F' N'
            (try k_sweep)
            k_steps
            (refine ne_none (hst.trans (if_neg (by first | exact hfull | omega))) ?_)
            k_steps
            rename Fr _ _ _ _ => F7
            rename News _ _ _ _ => N7
            exact hR2 () _ _ F7 N7 trivial
          · have hfull := of_decide_eq_true hb2.symm
            clear hb2
            refine fr_let F9 ?_
            clear F9
            intro mf2 F9
            k_steps
            refine' ConS.useA (c_law_read _ _ _ ?c10_0 ?c10_1) ?kh10 ?kf10 ?ka10 ?kb10 ?kc10 ?kd10 ?ke10 ?km10 ?kn10 ?kg10 ?ki10 ?kj10 ?_
            (case kh10 => exact rfl)
            (case kf10 => exact rfl)
            (case ka10 => k_asm)
            (case kb10 => k_asm)
            (case kc10 => k_asm)
            (case kd10 => k_asm)
            (case ke10 => k_asm)
            (case km10 => k_asm)
            (case kn10 => k_asm)
            (case kg10 => exact rfl)
            (case c10_0 => exact hya)
            (case c10_1 => (show y.length ≤ 400); exact dn10 0x3ed8642c036040b00 (by k_ne) hy64)
            (case ki10 => ((try dsimp only [A9]); ktr_room))
            (case kj10 => ((try dsimp only [A9]); ktr_units))
            k_whole
            intro t6 h' tk' F' N'
            (try k_sweep)
            k_steps
            refine' Con.useA (c_law_octets _ _ _ _ ?c11_0 ?c11_1 ?c11_2 ?c11_3) ?kh11 ?kf11 ?ka11 ?kb11 ?kc11 ?kd11 ?ke11 ?kg11 ?ki11 ?kj11 ?_
            (case kh11 => exact rfl)
            (case kf11 => exact rfl)
            (case ka11 => k_asm)
            (case kb11 => k_asm)
            (case kc11 => k_asm)
            (case kd11 => k_asm)
            (case ke11 => k_asm)
            (case kg11 => exact rfl)
            (case c11_0 => exact .head _)
            (case c11_1 => exact hI9)
            (case c11_2 => exact dn20 0x3efb6801d80076800 (by k_ne) hK20 hll)
            (case c11_3 => exact hlr)
            (case ki11 => ((try dsimp only [A9]); ktr_room))
            (case kj11 => ((try dsimp only [A9]); ktr_units))
            k_whole
            intro t7 h' tk' F' N'
            (try k_sweep)
            (refine ne_read (hst.trans (if_pos (by first | exact hfull | omega))) ?_)
            k_steps
            rename Fr _ _ _ _ => F7
            rename News _ _ _ _ => N7
            exact hR2 () _ _ F7 N7 trivial
        case sD =>
          clear F9 N9 hb2
          dsimp only [List.take, List.drop]
          intro _ h3 k3 F9 N9 _
          refine fr_let F9 ?_
          clear F9
          intro mf3 F9
          k_steps
          rename News _ _ _ _ => N7
          refine kst_len N7 (.tail _ (.head _)) hvl2 (by exact dn10 0xfbafc2bb4036800 (by k_ne) hK20) ?_
          by_cases hle : y.length = K.length
          · k_steps
          · k_steps
            refine' ConS.useA (c_law_read _ _ _ ?c12_0 ?c12_1) ?kh12 ?kf12 ?ka12 ?kb12 ?kc12 ?kd12 ?ke12 ?km12 ?kn12 ?kg12 ?ki12 ?kj12 ?_
            (case kh12 => exact rfl)
            (case kf12 => exact rfl)
            (case ka12 => k_asm)
            (case kb12 => k_asm)
            (case kc12 => k_asm)
            (case kd12 => k_asm)
            (case ke12 => k_asm)
            (case km12 => k_asm)
            (case kn12 => k_asm)
            (case kg12 => exact rfl)
            (case c12_0 => exact hya)
            (case c12_1 => (show y.length ≤ 400); exact dn10 0x3ed8642c036040b00 (by k_ne) hy64)
            (case ki12 => ((try dsimp only [A9]); ktr_room))
            (case kj12 => ((try dsimp only [A9]); ktr_units))
            k_whole
            intro t8 h' tk' F' N'
            (try k_sweep)
            k_steps
            (refine is_read (hbd.resolve_left hle) ?_)
            k_steps
      )
end Mine
end
theorem PySem.Challenge.cw_kt0099_01_holds : PySem.Challenge.rw_kt0099_01.Holds :=
  Mine.hd_law
