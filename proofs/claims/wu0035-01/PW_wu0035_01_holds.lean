import PyProof.Rows.All
import Wide.All
import OpenK.AllK
import Wide.FinOn
import PySem.Challenge.RW_wu0035_01
open PySem PySem.W PyProof.Rows
set_option Elab.async false
set_option maxRecDepth 100000
set_option maxHeartbeats 8000000
set_option linter.all false
set_option compiler.extract_closed false
namespace Mine
open_top hd for PySem.Challenge.rw_wu0035_01
theorem fill0 : PySem.Challenge.rw_wu0035_01 = PySem.Challenge.rw_wu0035_01 ∧ hd.heap_39 = hd.heap_39 := by
  w_top off
  k_fill
  exact ⟨rfl, rfl⟩
section
/-! linear facts from a combination of hypotheses: the expressions and the factors are given, the kernel adds them up -/
set_option genSizeOf false
set_option genInjectivity false
inductive EN
  | v (i : Nat) | c (k : Nat) | a (x y : EN) | m (k : Nat) (x : EN) | r (x : EN) (k : Nat)
inductive EZ
  | v (i : Nat) | i (k : Int) | a (x y : EZ) | s (x y : EZ) | m (k : Int) (x : EZ) | r (x : EZ) (k : Int) | g (x : EZ) | z (x : EN)
noncomputable def atL {α : Type} (d : α) (l : List α) : Nat → α := List.rec (motive := fun _ => Nat → α) (fun _ => d) (fun x _ f i => Nat.rec (motive := fun _ => α) x (fun j _ => f j) i) l
noncomputable def EN.den (N : List Nat) (e : EN) : Nat := EN.rec (motive := fun _ => Nat) (atL 0 N) (fun k => k) (fun _ _ a b => a + b) (fun k _ a => k * a) (fun _ k a => a * k) e
noncomputable def EZ.den (N : List Nat) (Z : List Int) (e : EZ) : Int := EZ.rec (motive := fun _ => Int) (atL 0 Z) (fun k => k) (fun _ _ a b => a + b) (fun _ _ a b => a - b) (fun k _ a => k * a) (fun _ k a => a * k) (fun _ a => -a) (fun x => (x.den N : Nat)) e
structure Li where
  c : Int
  n : List Int
  z : List Int
noncomputable def adl (a : List Int) : List Int → List Int := List.rec (motive := fun _ => List Int → List Int) (fun l => l) (fun x r f l => List.rec (motive := fun _ => List Int) (x :: r) (fun y t _ => (x + y) :: f t) l) a
noncomputable def uni (i : Nat) : List Int := Nat.rec (motive := fun _ => List Int) [1] (fun _ l => 0 :: l) i
noncomputable def scl (k : Int) (a : List Int) : List Int := List.rec (motive := fun _ => List Int) [] (fun x _ l => k * x :: l) a
noncomputable def dotN (a : List Int) (N : List Nat) : Int := List.rec (motive := fun _ => List Nat → Int) (fun _ => 0) (fun c _ f N => List.rec (motive := fun _ => Int) 0 (fun (x : Nat) X _ => c * (x : Int) + f X) N) a N
noncomputable def dotZ (a : List Int) (Z : List Int) : Int := List.rec (motive := fun _ => List Int → Int) (fun _ => 0) (fun c _ f Z => List.rec (motive := fun _ => Int) 0 (fun x X _ => c * x + f X) Z) a Z
noncomputable def Li.ad (k : Int) (a b : Li) : Li := ⟨a.c + k * b.c, adl a.n (scl k b.n), adl a.z (scl k b.z)⟩
noncomputable def Li.val (N : List Nat) (Z : List Int) (l : Li) : Int := l.c + dotN l.n N + dotZ l.z Z
noncomputable def Li.k (k : Int) : Li := ⟨k, [], []⟩
noncomputable def EN.li (e : EN) : Li := EN.rec (motive := fun _ => Li) (fun i => ⟨0, uni i, []⟩) (fun k => .k k) (fun _ _ a b => .ad 1 a b) (fun k _ a => .ad k (.k 0) a) (fun _ k a => .ad k (.k 0) a) e
noncomputable def EZ.li (e : EZ) : Li := EZ.rec (motive := fun _ => Li) (fun i => ⟨0, [], uni i⟩) (fun k => .k k) (fun _ _ a b => .ad 1 a b) (fun _ _ a b => .ad (-1) a b) (fun k _ a => .ad k (.k 0) a) (fun _ k a => .ad k (.k 0) a) (fun _ a => .ad (-1) (.k 0) a) (fun x => x.li) e
theorem dotN_nil (X) : dotN [] X = 0 := rfl
theorem dotZ_nil (X) : dotZ [] X = 0 := rfl
theorem dotN_cons (c l x X) : dotN (c :: l) (x :: X) = c * (x : Int) + dotN l X := rfl
theorem dotZ_cons (c l x X) : dotZ (c :: l) (x :: X) = c * x + dotZ l X := rfl
theorem adl_cons (c l x X) : adl (c :: l) (x :: X) = (c + x) :: adl l X := rfl
theorem four (a b c d : Int) : a + b + (c + d) = a + c + (b + d) := by omega
theorem dotN_adl (a : List Int) : ∀ b X, dotN (adl a b) X = dotN a X + dotN b X := by
  induction a with
  | nil => intro b X; exact (Int.zero_add _).symm
  | cons a r ih =>
    intro b X
    cases b with
    | nil => exact (Int.add_zero _).symm
    | cons b t => cases X with
      | nil => rfl
      | cons x X => rw [adl_cons, dotN_cons, dotN_cons, dotN_cons, ih, Int.add_mul, four]
theorem dotZ_adl (a : List Int) : ∀ b X, dotZ (adl a b) X = dotZ a X + dotZ b X := by
  induction a with
  | nil => intro b X; exact (Int.zero_add _).symm
  | cons a r ih =>
    intro b X
    cases b with
    | nil => exact (Int.add_zero _).symm
    | cons b t => cases X with
      | nil => rfl
      | cons x X => rw [adl_cons, dotZ_cons, dotZ_cons, dotZ_cons, ih, Int.add_mul, four]
theorem dotN_scl (k : Int) (a : List Int) : ∀ X, dotN (scl k a) X = k * dotN a X := by
  induction a with
  | nil => intro X; exact (Int.mul_zero _).symm
  | cons a r ih =>
    intro X
    cases X with
    | nil => exact (Int.mul_zero _).symm
    | cons x X =>
      show k * a * (x : Int) + dotN (scl k r) X = k * (a * (x : Int) + dotN r X)
      rw [ih, Int.mul_add, Int.mul_assoc]
theorem dotZ_scl (k : Int) (a : List Int) : ∀ X, dotZ (scl k a) X = k * dotZ a X := by
  induction a with
  | nil => intro X; exact (Int.mul_zero _).symm
  | cons a r ih =>
    intro X
    cases X with
    | nil => exact (Int.mul_zero _).symm
    | cons x X =>
      show k * a * x + dotZ (scl k r) X = k * (a * x + dotZ r X)
      rw [ih, Int.mul_add, Int.mul_assoc]
theorem dotN_uni (i : Nat) : ∀ N, dotN (uni i) N = (atL 0 N i : Nat) := by
  induction i with
  | zero => intro N; cases N with
    | nil => rfl
    | cons x X => show 1 * (x : Int) + 0 = x; rw [Int.one_mul, Int.add_zero]
  | succ i ih => intro N; cases N with
    | nil => rfl
    | cons x X =>
      show 0 * (x : Int) + dotN (uni i) X = (atL 0 X i : Nat)
      rw [Int.zero_mul, Int.zero_add, ih]
theorem dotZ_uni (i : Nat) : ∀ N, dotZ (uni i) N = atL 0 N i := by
  induction i with
  | zero => intro N; cases N with
    | nil => rfl
    | cons x X => show 1 * x + 0 = x; rw [Int.one_mul, Int.add_zero]
  | succ i ih => intro N; cases N with
    | nil => rfl
    | cons x X =>
      show 0 * x + dotZ (uni i) X = atL 0 X i
      rw [Int.zero_mul, Int.zero_add, ih]
theorem val_ad (N Z k a b) : (Li.ad k a b).val N Z = a.val N Z + k * b.val N Z := by
  show a.c + k * b.c + dotN (adl a.n (scl k b.n)) N + dotZ (adl a.z (scl k b.z)) Z = a.c + dotN a.n N + dotZ a.z Z + k * (b.c + dotN b.n N + dotZ b.z Z)
  rw [dotN_adl, dotZ_adl, dotN_scl, dotZ_scl, Int.mul_add, Int.mul_add]
  exact (congrArg (· + _) (four ..)).trans (four ..)
theorem val_k (N Z k) : (Li.k k).val N Z = k := by
  show k + 0 + 0 = k
  rw [Int.add_zero, Int.add_zero]
theorem val_1 (N Z) (a b : Li) (h : b.val N Z = k) : (Li.ad c (Li.k 0) b).val N Z = c * k := by rw [val_ad, val_k, Int.zero_add, h]
theorem EN.li_val (N Z) (x : EN) : x.li.val N Z = (x.den N : Nat) := by
  induction x with
  | v i => show 0 + dotN (uni i) N + 0 = (atL 0 N i : Nat); rw [dotN_uni, Int.zero_add, Int.add_zero]
  | c k => exact val_k ..
  | a x y hx hy => show (Li.ad 1 x.li y.li).val N Z = (x.den N + y.den N : Nat); rw [val_ad, hx, hy, Int.one_mul]; rfl
  | m k x hx => exact val_1 N Z x.li _ hx
  | r x k hx => exact (val_1 N Z x.li _ hx).trans (Int.mul_comm _ _)
theorem EZ.li_val (N Z) (x : EZ) : x.li.val N Z = x.den N Z := by
  induction x with
  | v i => show 0 + 0 + dotZ (uni i) Z = atL 0 Z i; rw [dotZ_uni, Int.zero_add, Int.zero_add]
  | i k => exact val_k ..
  | a x y hx hy => show (Li.ad 1 x.li y.li).val N Z = x.den N Z + y.den N Z; rw [val_ad, hx, hy, Int.one_mul]
  | s x y hx hy => show (Li.ad (-1) x.li y.li).val N Z = x.den N Z - y.den N Z; rw [val_ad, hx, hy, Int.sub_eq_add_neg, Int.neg_mul, Int.one_mul]
  | m k x hx => exact val_1 N Z x.li _ hx
  | r x k hx => exact (val_1 N Z x.li _ hx).trans (Int.mul_comm _ _)
  | g x hx => exact (val_1 N Z x.li _ hx).trans (by rw [Int.neg_mul, Int.one_mul]; rfl)
  | z x => exact EN.li_val ..
inductive P
  | n | l (k : Nat) (x y : EN) (p : P) | e (k : Int) (x y : EN) (p : P) | L (k : Nat) (x y : EZ) (p : P) | E (k : Int) (x y : EZ) (p : P)
noncomputable def P.imp (N : List Nat) (Z : List Int) (p : P) : Prop := P.rec (motive := fun _ => Prop) False (fun _ x y _ p => x.den N ≤ y.den N → p) (fun _ x y _ p => x.den N = y.den N → p) (fun _ x y _ p => x.den N Z ≤ y.den N Z → p) (fun _ x y _ p => x.den N Z = y.den N Z → p) p
noncomputable def neq (l : List Int) : Bool := List.rec (motive := fun _ => Bool) true (fun a _ b => decide (a ≤ 0) && b) l
noncomputable def zer (l : List Int) : Bool := List.rec (motive := fun _ => Bool) true (fun a _ b => decide (a = 0) && b) l
/-- adds k (y - x) -/
noncomputable def stp (k : Int) (x y s : Li) : Li := .ad k s (.ad (-1) y x)
noncomputable def P.chk (p : P) : Li → Bool := P.rec (motive := fun _ => Li → Bool) (fun s => decide (s.c < 0) && (neq s.n && zer s.z)) (fun k x y _ f s => f (stp k x.li y.li s)) (fun k x y _ f s => f (stp k x.li y.li s)) (fun k x y _ f s => f (stp k x.li y.li s)) (fun k x y _ f s => f (stp k x.li y.li s)) p
theorem neq_le (l : List Int) : ∀ N, neq l = true → dotN l N ≤ 0 := by
  induction l with
  | nil => intro N _; exact Int.le_refl _
  | cons a l ih =>
    intro N h
    cases N with
    | nil => exact Int.le_refl _
    | cons x N =>
      have h := Bool.and_eq_true_iff.mp h
      exact Int.add_nonpos (Int.mul_nonpos_of_nonpos_of_nonneg (of_decide_eq_true h.1) (Int.natCast_nonneg x)) (ih N h.2)
theorem zer_eq (l : List Int) : ∀ N, zer l = true → dotZ l N = 0 := by
  induction l with
  | nil => intro N _; rfl
  | cons a l ih =>
    intro N h
    cases N with
    | nil => rfl
    | cons x N =>
      have h := Bool.and_eq_true_iff.mp h
      rw [dotZ_cons, ih N h.2, of_decide_eq_true h.1, Int.zero_mul]; rfl
theorem stp_le {N Z} {k : Nat} {x y s : Li} (h : 0 ≤ s.val N Z) (hk : x.val N Z ≤ y.val N Z) : 0 ≤ (stp k x y s).val N Z := by
  rw [stp, val_ad, val_ad, Int.neg_mul, Int.one_mul]
  exact Int.add_nonneg h (Int.mul_nonneg (Int.natCast_nonneg k) (Int.sub_nonneg.mpr hk))
theorem stp_eq {N Z} {k : Int} {x y s : Li} (h : 0 ≤ s.val N Z) (hk : x.val N Z = y.val N Z) : 0 ≤ (stp k x y s).val N Z := by
  rw [stp, val_ad, val_ad, Int.neg_mul, Int.one_mul, hk, Int.add_right_neg, Int.mul_zero, Int.add_zero]
  exact h
theorem chk_ok (N Z) (p : P) : ∀ s : Li, 0 ≤ s.val N Z → p.chk s = true → p.imp N Z := by
  induction p with
  | n =>
    intro s h c
    obtain ⟨c1, c2⟩ := Bool.and_eq_true_iff.mp c
    obtain ⟨c2, c3⟩ := Bool.and_eq_true_iff.mp c2
    have h1 := neq_le s.n N c2
    have h2 := zer_eq s.z Z c3
    have h3 : s.c < 0 := of_decide_eq_true c1
    have h4 : 0 ≤ s.c + dotN s.n N + dotZ s.z Z := h
    rw [h2, Int.add_zero] at h4
    exact absurd (Int.le_trans h4 (Int.add_le_add_left h1 _)) (Int.not_le.mpr (by rw [Int.add_zero]; exact h3))
  | l k x y p ih => exact fun s h c q => ih _ (stp_le h (by rw [EN.li_val, EN.li_val]; exact Int.ofNat_le.mpr q)) c
  | e k x y p ih => exact fun s h c q => ih _ (stp_eq h (by rw [EN.li_val, EN.li_val]; exact congrArg _ q)) c
  | L k x y p ih => exact fun s h c q => ih _ (stp_le h (by rw [EZ.li_val, EZ.li_val]; exact q)) c
  | E k x y p ih => exact fun s h c q => ih _ (stp_eq h (by rw [EZ.li_val, EZ.li_val]; exact q)) c
theorem lin (N : List Nat) (Z : List Int) (p : P) (c : p.chk (.k 0) = true) : p.imp N Z := chk_ok N Z p _ (Int.le_of_eq (val_k N Z 0).symm) c
noncomputable def P.imq (N : List Nat) (Z : List Int) (C : Prop) (p : P) : Prop := P.rec (motive := fun _ => Prop) C (fun _ _ _ _ _ => True) (fun _ x y _ p => x.den N = y.den N → p) (fun _ _ _ _ _ => True) (fun _ x y _ p => x.den N Z = y.den N Z → p) p
noncomputable def P.chq (p : P) : Li → Bool := P.rec (motive := fun _ => Li → Bool) (fun s => decide (s.c = 0) && (zer s.n && zer s.z)) (fun _ _ _ _ _ _ => true) (fun k x y _ f s => f (stp k x.li y.li s)) (fun _ _ _ _ _ _ => true) (fun k x y _ f s => f (stp k x.li y.li s)) p
theorem zer_N (l : List Int) : ∀ N, zer l = true → dotN l N = 0 := by
  induction l with
  | nil => intro N _; rfl
  | cons a l ih =>
    intro N h
    cases N with
    | nil => rfl
    | cons x N =>
      have h := Bool.and_eq_true_iff.mp h
      rw [dotN_cons, ih N h.2, of_decide_eq_true h.1, Int.zero_mul]; rfl
theorem stp_q {N Z} {k : Int} {x y s : Li} {C : Prop} (h : s.val N Z = 0 → C) (hk : x.val N Z = y.val N Z) : (stp k x y s).val N Z = 0 → C := by
  rw [stp, val_ad, val_ad, Int.neg_mul, Int.one_mul, hk, Int.add_right_neg, Int.mul_zero, Int.add_zero]
  exact h
theorem chq_ok (N Z) (C : Prop) (p : P) : ∀ s : Li, (s.val N Z = 0 → C) → p.chq s = true → p.imq N Z C := by
  induction p with
  | n =>
    intro s h c
    obtain ⟨c1, c2⟩ := Bool.and_eq_true_iff.mp c
    obtain ⟨c2, c3⟩ := Bool.and_eq_true_iff.mp c2
    refine h ?_
    show s.c + dotN s.n N + dotZ s.z Z = 0
    rw [zer_N s.n N c2, zer_eq s.z Z c3, of_decide_eq_true c1]; rfl
  | l k x y p ih => exact fun s h c => trivial
  | e k x y p ih => exact fun s h c q => ih _ (stp_q h (by rw [EN.li_val, EN.li_val]; exact congrArg _ q)) c
  | L k x y p ih => exact fun s h c => trivial
  | E k x y p ih => exact fun s h c q => ih _ (stp_q h (by rw [EZ.li_val, EZ.li_val]; exact q)) c
/-- x = y from equations -/
theorem linn (N : List Nat) (Z : List Int) (x y : EN) (p : P) (c : p.chq (.ad (-1) y.li x.li) = true) : p.imq N Z (x.den N = y.den N) :=
  chq_ok N Z _ p _ (fun h => by
    rw [val_ad, EN.li_val, EN.li_val, Int.neg_mul, Int.one_mul] at h
    exact Int.ofNat.inj (Int.eq_of_sub_eq_zero h).symm) c
theorem linz (N : List Nat) (Z : List Int) (x y : EZ) (p : P) (c : p.chq (.ad (-1) y.li x.li) = true) : p.imq N Z (x.den N Z = y.den N Z) :=
  chq_ok N Z _ p _ (fun h => by
    rw [val_ad, EZ.li_val, EZ.li_val, Int.neg_mul, Int.one_mul] at h
    exact (Int.eq_of_sub_eq_zero h).symm) c
theorem sub_g (a b : Nat) : a ≤ a - b + b := by omega
example (a b : Nat) (z : Int) (h1 : a + 2 < b) (h2 : (b : Int) ≤ z) : (a : Int) < z := Int.not_le.mp (lin [_, _] [_] (.l 1 (.a (.a (.v 0) (.c 2)) (.c 1)) (.v 1) (.L 1 (.z (.v 1)) (.v 0) (.L 1 (.v 0) (.z (.v 0)) .n))) (by kernel_rfl) h1 h2)
example (a b : Nat) (h1 : ¬ a ≤ b)  : b < a := Nat.not_le.mp (lin [_, _] [] (.l 1 (.a (.v 0) (.c 1)) (.v 1) (.l 1 (.v 1) (.v 0) .n)) (by kernel_rfl) (Nat.lt_of_not_le h1))
example (a b c : Nat) (h1 : a = b + 2) (h2 : b = c) : a = c + 2 := linn [_, _, _] [] (.v 0) (.a (.v 2) (.c 2)) (.e (-1) (.v 0) (.a (.v 1) (.c 2)) (.e (-1) (.v 1) (.v 2) .n)) (by kernel_rfl) h1 h2
example (a b c : Int) (h1 : a = b + 2) (h2 : b = c) : a = c + 2 := linz [] [_, _, _] (.v 0) (.a (.v 2) (.i 2)) (.E (-1) (.v 0) (.a (.v 1) (.i 2)) (.E (-1) (.v 1) (.v 2) .n)) (by kernel_rfl) h1 h2
end
section
noncomputable abbrev Led := List (Addr × Obj)
noncomputable abbrev pg : Program := PySem.Challenge.pw_wu0035_01
noncomputable abbrev oTup (xs : Array Value) (c : Nat) : Obj := { cls := .type "tuple", data := .seq xs c }
noncomputable abbrev oLst (xs : List Value) (c : Nat) : Obj := { cls := .type "list", data := .seq xs.toArray c }
noncomputable def CT (w : World) (p : Program) (loose : List Str) (mean : ExcName → Option Value) (mg mb : Str → Option Value) (f : Addr) (vs : List Value) (need : Nat) (news : Led) (Post : Value → Led → Prop) : Prop :=
  ∀ (dp un : Nat) (gd : Option (List Code)) (cn : Str) (cs : Scope) (a : Addr) (ccd : Value) (cl : List (Str × Addr)) (outer : List Env) (A₀ : Around) (base h₀ : Heap) (L : Addr) (m : Str → Option Value) (s : Shared) (Q E : Value → Shared → Prop),
    Below A₀ base outer h₀ → Fr h₀ L s.heap m → (hd.heap_39 w.params).In h₀ → News h₀ L s.heap news → Top p loose mean mg mb h₀ → cs.kind = .function →
    dp + need < recursionLimit → un + 200 + 8 * need < cLine →
    (∀ (r : Value) (own : Led) (h' : Heap) (tk' : Nat), Fr h₀ L h' m → News h₀ L h' (own ++ news) → (∀ p ∈ own, ∀ q ∈ news, q.1 < p.1) → Post r own → Q r { s with heap := h', toks := tk' }) →
    wpAny (model pg w) (ktrTop dp un gd cn cs L a ccd cl outer) (call (.ref f) vs) Q E s

theorem ord0 {news : Led} : ∀ p ∈ ([] : Led), ∀ q ∈ news, q.1 < p.1 := fun _ h => nomatch h
theorem ord1 {news : Led} {D : Addr} {o : Obj} (h : ∀ q ∈ news, q.1 < D) : ∀ p ∈ [(D, o)], ∀ q ∈ news, q.1 < p.1 := by
  intro p hp q hq
  rw [List.mem_singleton.mp hp]
  exact h q hq

theorem news_drop1 {h₀ h : Heap} {L : Addr} {a b : Addr × Obj} {r : Led} (N : News h₀ L h (a :: b :: r)) : News h₀ L h ([a] ++ r) := fun p hp => N p (by
  rcases List.mem_cons.mp hp with rfl | hp
  · exact .head _
  · exact .tail _ (.tail _ hp))
theorem news_dropA {h₀ h : Heap} {L : Addr} {a b : Led} {r : Led} (hs : ∀ p ∈ a, p ∈ b) (N : News h₀ L h (b ++ r)) : News h₀ L h (a ++ r) := fun p hp => N p (by
  rcases List.mem_append.mp hp with hp | hp
  · exact List.mem_append_left _ (hs p hp)
  · exact List.mem_append_right _ hp)
theorem news_keep1 {h₀ h : Heap} {L : Addr} {a : Addr × Obj} {l r : Led} (N : News h₀ L h l) (hm : a ∈ l) (hs : ∀ p ∈ r, p ∈ l) : News h₀ L h ([a] ++ r) := fun p hp => N p (by
  rcases List.mem_cons.mp hp with rfl | hp
  · exact hm
  · exact hs p hp)
theorem news_keep0 {h₀ h : Heap} {L : Addr} {l r : Led} (N : News h₀ L h l) (hs : ∀ p ∈ r, p ∈ l) : News h₀ L h ([] ++ r) := fun p hp => N p (hs p hp)
theorem sub_c {a : Addr × Obj} {l r : Led} (h : ∀ p ∈ r, p ∈ l) : ∀ p ∈ r, p ∈ a :: l := fun p hp => .tail _ (h p hp)
theorem sub_i {r : Led} : ∀ p ∈ r, p ∈ r := fun _ h => h
theorem lt_i {D : Addr} {r : Led} (h : AllLt D r) : ∀ q ∈ r, q.1 < D := ktn_ltOf h
/-- the clamp of yiq_to_rgb -/
noncomputable def clampF (x : UInt64) : UInt64 :=
  if (Float64.cmp (if (Float64.cmp x 0 == some Ordering.lt) = true then 0 else x) 4607182418800017408 == some Ordering.gt) = true then 4607182418800017408
  else (if (Float64.cmp x 0 == some Ordering.lt) = true then 0 else x)
theorem cl_tt {x : UInt64} (h : (Float64.cmp x 0 == some Ordering.lt) = true) (k : (Float64.cmp 0 4607182418800017408 == some Ordering.gt) = true) : 4607182418800017408 = clampF x := by
  unfold clampF; simp only [h, k, if_true]
theorem cl_tf {x : UInt64} (h : (Float64.cmp x 0 == some Ordering.lt) = true) (k : (Float64.cmp 0 4607182418800017408 == some Ordering.gt) = false) : 0 = clampF x := by
  unfold clampF; simp only [h, k, if_true, Bool.false_eq_true, if_false]
theorem cl_ft {x : UInt64} (h : (Float64.cmp x 0 == some Ordering.lt) = false) (k : (Float64.cmp x 4607182418800017408 == some Ordering.gt) = true) : 4607182418800017408 = clampF x := by
  unfold clampF; simp only [h, k, if_true, Bool.false_eq_true, if_false]
theorem cl_ff {x : UInt64} (h : (Float64.cmp x 0 == some Ordering.lt) = false) (k : (Float64.cmp x 4607182418800017408 == some Ordering.gt) = false) : x = clampF x := by
  unfold clampF; simp only [h, k, Bool.false_eq_true, if_false]
noncomputable def yY (r g b : UInt64) : UInt64 := Float64.add (Float64.add (Float64.mul 4599075939470750515 r) (Float64.mul 4603489467105573601 g)) (Float64.mul 4592590756007337001 b)
noncomputable def yI (r g b : UInt64) : UInt64 := Float64.sub (Float64.mul 4604840546993784750 (Float64.sub r (yY r g b))) (Float64.mul 4598535507515466056 (Float64.sub b (yY r g b)))
noncomputable def yQ (r g b : UInt64) : UInt64 := Float64.add (Float64.mul 4602318531202457272 (Float64.sub r (yY r g b))) (Float64.mul 4601057523306793533 (Float64.sub b (yY r g b)))
noncomputable def rR (x y z : UInt64) : UInt64 := Float64.add (Float64.add x (Float64.mul 4606703976345377586 y)) (Float64.mul 4603791717925830846 z)
noncomputable def rG (x y z : UInt64) : UInt64 := Float64.sub (Float64.sub x (Float64.mul 4598621754083818298 y)) (Float64.mul 4603901015759978483 z)
noncomputable def rB (x y z : UInt64) : UInt64 := Float64.add (Float64.sub x (Float64.mul 4607671262177584182 y)) (Float64.mul 4610375502138591871 z)
/-- a tuple of three floats comes back -/
noncomputable abbrev RetF3 (a b c : UInt64) (r : Value) (own : Led) : Prop := ∃ D x y z t1 t2 t3 n, r = .ref D ∧ own = [(D, oTup #[.float x t1, .float y t2, .float z t3] n)] ∧ x = a ∧ y = b ∧ z = c
local macro_rules | `(tactic| walk_at "MINE cl") => `(tactic| first | rfl | exact cl_ff (by assumption) (by assumption) | exact cl_tf (by assumption) (by assumption) | exact cl_ft (by assumption) (by assumption) | exact cl_tt (by assumption) (by assumption))
end
section
section
variable {prog : Program} {w : World} {A : Around} {E : Value → Shared → Prop} {s : Shared} {h₀ : Heap} {L : Addr} {m : Str → Option Value} {news : Led}
/-- the greatest of three, as max reckons it -/
noncomputable def mx3 (a b c : UInt64) : UInt64 := Flt.maxOfBits [a, b, c]
noncomputable def mn3 (a b c : UInt64) : UInt64 := Flt.minOfBits [a, b, c]
theorem max3_any {a b c : UInt64} {t u x : Tok} {Q : Value → Shared → Prop} (hh : A.handled = none) (F : Fr h₀ L s.heap m) (N : News h₀ L s.heap news)
    (h : ∀ h' tk t, Fr h₀ L h' m → News h₀ L h' news → Q (.float (mx3 a b c) t) { s with heap := h', toks := tk }) :
    wpAny (model prog w) A (call (.builtin "max") [.float a t, .float b u, .float c x]) Q E s := by
  have hT : (s.heap.push { cls := .type "tuple", data := .seq #[.float a t, .float b u, .float c x] }).IsTuple s.heap.objs.size #[.float a t, .float b u, .float c x] := ⟨_, Heap.get?_push_size _ rfl, rfl, 0, rfl⟩
  refine call_max_three (wpAny_pyIter_tuple hT ?_)
  have hsz : (s.heap.push { cls := .type "tuple", data := .seq #[.float a t, .float b u, .float c x] }).objs.size = s.heap.objs.size + 1 := Heap.size_push ..
  refine ⟨_, [_, s.heap.objs.size], [_], _, _, _, (fun i j => Flt.gtB ([a, b, c].getD i 0) ([a, b, c].getD j 0)), rfl, Walks.tuple (A := A.in1) hh _ s.heap.objs.size (by rw [hsz]; exact Nat.ne_of_lt (Nat.lt_succ_self _)) #[.float a t, .float b u, .float c x],
    ⟨⟨_, Heap.get?_push_size _ rfl, rfl, rfl⟩, hT.push _⟩, fun d hd => ?_, by simp, fun i j vi vj s Q E hi hj h => ?_, fun v h' tk hP hk => ?_⟩
  · show d < ((s.heap.push _).push _).objs.size
    rw [Heap.size_push, hsz]
    rcases List.mem_cons.mp hd with rfl | hd
    · rw [hsz]; exact Nat.lt_succ_self _
    · rcases List.mem_cons.mp hd with rfl | hd
      · exact Nat.lt_succ_of_lt (Nat.lt_succ_self _)
      · cases hd
  · have e1 : ∃ y, vi = .float ([a, b, c].getD i 0) y := by
      match i, hi with
      | 0, hi => exact ⟨_, (Option.some.inj hi).symm⟩
      | 1, hi => exact ⟨_, (Option.some.inj hi).symm⟩
      | 2, hi => exact ⟨_, (Option.some.inj hi).symm⟩
      | i + 3, hi => simp at hi
    have e2 : ∃ y, vj = .float ([a, b, c].getD j 0) y := by
      match j, hj with
      | 0, hj => exact ⟨_, (Option.some.inj hj).symm⟩
      | 1, hj => exact ⟨_, (Option.some.inj hj).symm⟩
      | 2, hj => exact ⟨_, (Option.some.inj hj).symm⟩
      | j + 3, hj => simp at hj
    obtain ⟨_, rfl⟩ := e1
    obtain ⟨_, rfl⟩ := e2
    exact AutoFloatOps.gt_0 (by rw [Flt.cmp_gt]; exact h)
  · have hold : ∀ d o, s.heap.get? d = some o → h'.get? d = some o := fun d o e => by
      refine hk d o (fun hm => ?_) (Heap.get?_push_of_some _ (Heap.get?_push_of_some _ e))
      rcases List.mem_cons.mp hm with e1 | hm
      · have := Heap.lt_size e; rw [e1, hsz] at this; exact Nat.lt_irrefl _ (Nat.lt_of_succ_lt this)
      · cases hm
    have hb := Flt.argBest_bits Flt.gtB [a, b, c] 2 (by simp)
    have hv : ∃ y, v = .float (mx3 a b c) y := by
      have hP' : (#[Value.float a t, .float b u, .float c x] : Array Value)[argBest (fun i j => Flt.gtB ([a, b, c].getD i 0) ([a, b, c].getD j 0)) 2]? = some v := hP
      have hb' : mx3 a b c = [a, b, c].getD (argBest (fun i j => Flt.gtB ([a, b, c].getD i 0) ([a, b, c].getD j 0)) 2) 0 := hb.symm
      rw [hb']
      generalize argBest (fun i j => Flt.gtB ([a, b, c].getD i 0) ([a, b, c].getD j 0)) 2 = k at hP'
      match k, hP' with
      | 0, hP' => exact ⟨_, (Option.some.inj hP').symm⟩
      | 1, hP' => exact ⟨_, (Option.some.inj hP').symm⟩
      | 2, hP' => exact ⟨_, (Option.some.inj hP').symm⟩
      | k + 3, hP' => simp at hP'
    obtain ⟨y, rfl⟩ := hv
    exact h h' tk y (F.grownK hold) (N.grown hold)
theorem min3_any {a b c : UInt64} {t u x : Tok} {Q : Value → Shared → Prop} (hh : A.handled = none) (F : Fr h₀ L s.heap m) (N : News h₀ L s.heap news)
    (h : ∀ h' tk t, Fr h₀ L h' m → News h₀ L h' news → Q (.float (mn3 a b c) t) { s with heap := h', toks := tk }) :
    wpAny (model prog w) A (call (.builtin "min") [.float a t, .float b u, .float c x]) Q E s := by
  have hT : (s.heap.push { cls := .type "tuple", data := .seq #[.float a t, .float b u, .float c x] }).IsTuple s.heap.objs.size #[.float a t, .float b u, .float c x] := ⟨_, Heap.get?_push_size _ rfl, rfl, 0, rfl⟩
  refine call_min_three (wpAny_pyIter_tuple hT ?_)
  have hsz : (s.heap.push { cls := .type "tuple", data := .seq #[.float a t, .float b u, .float c x] }).objs.size = s.heap.objs.size + 1 := Heap.size_push ..
  refine ⟨_, [_, s.heap.objs.size], [_], _, _, _, (fun i j => Flt.ltB ([a, b, c].getD i 0) ([a, b, c].getD j 0)), rfl, Walks.tuple (A := A.in1) hh _ s.heap.objs.size (by rw [hsz]; exact Nat.ne_of_lt (Nat.lt_succ_self _)) #[.float a t, .float b u, .float c x],
    ⟨⟨_, Heap.get?_push_size _ rfl, rfl, rfl⟩, hT.push _⟩, fun d hd => ?_, by simp, fun i j vi vj s Q E hi hj h => ?_, fun v h' tk hP hk => ?_⟩
  · show d < ((s.heap.push _).push _).objs.size
    rw [Heap.size_push, hsz]
    rcases List.mem_cons.mp hd with rfl | hd
    · rw [hsz]; exact Nat.lt_succ_self _
    · rcases List.mem_cons.mp hd with rfl | hd
      · exact Nat.lt_succ_of_lt (Nat.lt_succ_self _)
      · cases hd
  · have e1 : ∃ y, vi = .float ([a, b, c].getD i 0) y := by
      match i, hi with
      | 0, hi => exact ⟨_, (Option.some.inj hi).symm⟩
      | 1, hi => exact ⟨_, (Option.some.inj hi).symm⟩
      | 2, hi => exact ⟨_, (Option.some.inj hi).symm⟩
      | i + 3, hi => simp at hi
    have e2 : ∃ y, vj = .float ([a, b, c].getD j 0) y := by
      match j, hj with
      | 0, hj => exact ⟨_, (Option.some.inj hj).symm⟩
      | 1, hj => exact ⟨_, (Option.some.inj hj).symm⟩
      | 2, hj => exact ⟨_, (Option.some.inj hj).symm⟩
      | j + 3, hj => simp at hj
    obtain ⟨_, rfl⟩ := e1
    obtain ⟨_, rfl⟩ := e2
    exact AutoFloatOps.lt_0 h
  · have hold : ∀ d o, s.heap.get? d = some o → h'.get? d = some o := fun d o e => by
      refine hk d o (fun hm => ?_) (Heap.get?_push_of_some _ (Heap.get?_push_of_some _ e))
      rcases List.mem_cons.mp hm with e1 | hm
      · have := Heap.lt_size e; rw [e1, hsz] at this; exact Nat.lt_irrefl _ (Nat.lt_of_succ_lt this)
      · cases hm
    have hb := Flt.argBest_bits Flt.ltB [a, b, c] 2 (by simp)
    have hv : ∃ y, v = .float (mn3 a b c) y := by
      have hP' : (#[Value.float a t, .float b u, .float c x] : Array Value)[argBest (fun i j => Flt.ltB ([a, b, c].getD i 0) ([a, b, c].getD j 0)) 2]? = some v := hP
      have hb' : mn3 a b c = [a, b, c].getD (argBest (fun i j => Flt.ltB ([a, b, c].getD i 0) ([a, b, c].getD j 0)) 2) 0 := hb.symm
      rw [hb']
      generalize argBest (fun i j => Flt.ltB ([a, b, c].getD i 0) ([a, b, c].getD j 0)) 2 = k at hP'
      match k, hP' with
      | 0, hP' => exact ⟨_, (Option.some.inj hP').symm⟩
      | 1, hP' => exact ⟨_, (Option.some.inj hP').symm⟩
      | 2, hP' => exact ⟨_, (Option.some.inj hP').symm⟩
      | k + 3, hP' => simp at hP'
    obtain ⟨y, rfl⟩ := hv
    exact h h' tk y (F.grownK hold) (N.grown hold)
end
end
section
theorem no_zero {x : UInt64} (h : Float64.isZero x = false) (k : Float64.isZero x = true) : False := by rw [h] at k; cases k
theorem no_eq {b : Bool} (h : b = false) (k : b = true) : False := by rw [h] at k; cases k
/-- colour of one part: _v -/
noncomputable def vM (z : UInt64) : UInt64 := (Float64.divmod z 4607182418800017408).2
noncomputable def vF (x y z : UInt64) : UInt64 :=
  if (Float64.cmp (vM z) 4595172819793696085 == some Ordering.lt) = true then Float64.add x (Float64.mul (Float64.mul (Float64.sub y x) (vM z)) 4618441417868443648)
  else if (Float64.cmp (vM z) 4602678819172646912 == some Ordering.lt) = true then y
  else if (Float64.cmp (vM z) 4604180019048437077 == some Ordering.lt) = true then Float64.add x (Float64.mul (Float64.mul (Float64.sub y x) (Float64.sub 4604180019048437077 (vM z))) 4618441417868443648)
  else x
theorem v_1 {x y z : UInt64} (h : (Float64.cmp (Float64.divmod z 4607182418800017408).2 4595172819793696085 == some Ordering.lt) = true) :
    Float64.add x (Float64.mul (Float64.mul (Float64.sub y x) (Float64.divmod z 4607182418800017408).2) 4618441417868443648) = vF x y z := by
  unfold vF vM; rw [if_pos h]
theorem v_2 {x y z : UInt64} (h : (Float64.cmp (Float64.divmod z 4607182418800017408).2 4595172819793696085 == some Ordering.lt) = false)
    (k : (Float64.cmp (Float64.divmod z 4607182418800017408).2 4602678819172646912 == some Ordering.lt) = true) : y = vF x y z := by
  unfold vF vM; simp only [h, k, if_true, Bool.false_eq_true, if_false]
theorem v_3 {x y z : UInt64} (h : (Float64.cmp (Float64.divmod z 4607182418800017408).2 4595172819793696085 == some Ordering.lt) = false)
    (k : (Float64.cmp (Float64.divmod z 4607182418800017408).2 4602678819172646912 == some Ordering.lt) = false)
    (l : (Float64.cmp (Float64.divmod z 4607182418800017408).2 4604180019048437077 == some Ordering.lt) = true) :
    Float64.add x (Float64.mul (Float64.mul (Float64.sub y x) (Float64.sub 4604180019048437077 (Float64.divmod z 4607182418800017408).2)) 4618441417868443648) = vF x y z := by
  unfold vF vM; simp only [h, k, l, if_true, Bool.false_eq_true, if_false]
theorem v_4 {x y z : UInt64} (h : (Float64.cmp (Float64.divmod z 4607182418800017408).2 4595172819793696085 == some Ordering.lt) = false)
    (k : (Float64.cmp (Float64.divmod z 4607182418800017408).2 4602678819172646912 == some Ordering.lt) = false)
    (l : (Float64.cmp (Float64.divmod z 4607182418800017408).2 4604180019048437077 == some Ordering.lt) = false) : x = vF x y z := by
  unfold vF vM; simp only [h, k, l, Bool.false_eq_true, if_false]

section
variable (x y z : UInt64)
/-- (maxc - a) / rangec -/
noncomputable def qc (a : UInt64) : UInt64 := Float64.div (Float64.sub (mx3 x y z) a) (Float64.sub (mx3 x y z) (mn3 x y z))
noncomputable def hueR : UInt64 :=
  if (Float64.cmp x (mx3 x y z) == some Ordering.eq) = true then Float64.sub (qc x y z z) (qc x y z y)
  else if (Float64.cmp y (mx3 x y z) == some Ordering.eq) = true then Float64.sub (Float64.add 4611686018427387904 (qc x y z x)) (qc x y z z)
  else Float64.sub (Float64.add 4616189618054758400 (qc x y z y)) (qc x y z x)
noncomputable def hueF : UInt64 := (Float64.divmod (Float64.div (hueR x y z) 4618441417868443648) 4607182418800017408).2
noncomputable def lumF : UInt64 := Float64.div (Float64.add (mx3 x y z) (mn3 x y z)) 4611686018427387904
noncomputable def satF : UInt64 :=
  if (Float64.cmp (lumF x y z) 4602678819172646912 == some Ordering.lt || Float64.cmp (lumF x y z) 4602678819172646912 == some Ordering.eq) = true then Float64.div (Float64.sub (mx3 x y z) (mn3 x y z)) (Float64.add (mx3 x y z) (mn3 x y z))
  else Float64.div (Float64.sub (mx3 x y z) (mn3 x y z)) (Float64.sub (Float64.sub 4611686018427387904 (mx3 x y z)) (mn3 x y z))
end
section
variable {x y z : UInt64}
theorem hue_1 (h : (Float64.cmp x (mx3 x y z) == some Ordering.eq) = true) :
    (Float64.divmod (Float64.div (Float64.sub (Float64.div (Float64.sub (mx3 x y z) z) (Float64.sub (mx3 x y z) (mn3 x y z))) (Float64.div (Float64.sub (mx3 x y z) y) (Float64.sub (mx3 x y z) (mn3 x y z)))) 4618441417868443648) 4607182418800017408).2 = hueF x y z := by
  unfold hueF hueR qc; rw [if_pos h]
theorem hue_2 (h : (Float64.cmp x (mx3 x y z) == some Ordering.eq) = false) (k : (Float64.cmp y (mx3 x y z) == some Ordering.eq) = true) :
    (Float64.divmod (Float64.div (Float64.sub (Float64.add 4611686018427387904 (Float64.div (Float64.sub (mx3 x y z) x) (Float64.sub (mx3 x y z) (mn3 x y z)))) (Float64.div (Float64.sub (mx3 x y z) z) (Float64.sub (mx3 x y z) (mn3 x y z)))) 4618441417868443648) 4607182418800017408).2 = hueF x y z := by
  unfold hueF hueR qc; simp only [h, k, if_true, Bool.false_eq_true, if_false]
theorem hue_3 (h : (Float64.cmp x (mx3 x y z) == some Ordering.eq) = false) (k : (Float64.cmp y (mx3 x y z) == some Ordering.eq) = false) :
    (Float64.divmod (Float64.div (Float64.sub (Float64.add 4616189618054758400 (Float64.div (Float64.sub (mx3 x y z) y) (Float64.sub (mx3 x y z) (mn3 x y z)))) (Float64.div (Float64.sub (mx3 x y z) x) (Float64.sub (mx3 x y z) (mn3 x y z)))) 4618441417868443648) 4607182418800017408).2 = hueF x y z := by
  unfold hueF hueR qc; simp only [h, k, Bool.false_eq_true, if_false]
theorem sat_1 (h : (Float64.cmp (Float64.div (Float64.add (mx3 x y z) (mn3 x y z)) 4611686018427387904) 4602678819172646912 == some Ordering.lt || Float64.cmp (Float64.div (Float64.add (mx3 x y z) (mn3 x y z)) 4611686018427387904) 4602678819172646912 == some Ordering.eq) = true) :
    Float64.div (Float64.sub (mx3 x y z) (mn3 x y z)) (Float64.add (mx3 x y z) (mn3 x y z)) = satF x y z := by
  unfold satF lumF; rw [if_pos h]
theorem sat_2 (h : (Float64.cmp (Float64.div (Float64.add (mx3 x y z) (mn3 x y z)) 4611686018427387904) 4602678819172646912 == some Ordering.lt || Float64.cmp (Float64.div (Float64.add (mx3 x y z) (mn3 x y z)) 4611686018427387904) 4602678819172646912 == some Ordering.eq) = false) :
    Float64.div (Float64.sub (mx3 x y z) (mn3 x y z)) (Float64.sub (Float64.sub 4611686018427387904 (mx3 x y z)) (mn3 x y z)) = satF x y z := by
  unfold satF lumF; rw [if_neg (by rw [h]; exact Bool.false_ne_true)]
end
/-- m2, m1 of hls_to_rgb -/
noncomputable def m2F (l s : UInt64) : UInt64 :=
  if (Float64.cmp l 4602678819172646912 == some Ordering.lt || Float64.cmp l 4602678819172646912 == some Ordering.eq) = true then Float64.mul l (Float64.add 4607182418800017408 s)
  else Float64.sub (Float64.add l s) (Float64.mul l s)
noncomputable def m1F (l s : UInt64) : UInt64 := Float64.sub (Float64.mul 4611686018427387904 l) (m2F l s)
theorem m2_1 {l s : UInt64} (h : (Float64.cmp l 4602678819172646912 == some Ordering.lt || Float64.cmp l 4602678819172646912 == some Ordering.eq) = true) : Float64.mul l (Float64.add 4607182418800017408 s) = m2F l s := by
  unfold m2F; rw [if_pos h]
theorem m2_2 {l s : UInt64} (h : (Float64.cmp l 4602678819172646912 == some Ordering.lt || Float64.cmp l 4602678819172646912 == some Ordering.eq) = false) : Float64.sub (Float64.add l s) (Float64.mul l s) = m2F l s := by
  unfold m2F; rw [if_neg (by rw [h]; exact Bool.false_ne_true)]
/-- int(16 * part + 0.5) -/
noncomputable def lampI (x : UInt64) : Int := Flt.toInt Float64.truncOf (Float64.add (Float64.mul (Float64.ofInt 16) x) 4602678819172646912)
noncomputable def lampR (x : UInt64) : UInt64 := Float64.add (Float64.mul (Float64.ofInt 16) x) 4602678819172646912
theorem fin_nan {x : UInt64} (h : Float64.isFinite x = true) (k : Float64.isNaN x = true) : False := by
  unfold Float64.isFinite at h
  unfold Float64.isNaN at k
  split at h <;> simp_all
theorem fin_inf {x : UInt64} (h : Float64.isFinite x = true) (k : Float64.isInf x = true) : False := by
  unfold Float64.isFinite at h
  unfold Float64.isInf at k
  split at h <;> simp_all
/-- 16 * x + 0.5 is finite -/
structure OkF (x : UInt64) : Prop where
  fin : Float64.isFinite (lampR x) = true
/-- no grey, no division by nought -/
structure OkC (x y z : UInt64) : Prop where
  z0 : Float64.isZero (mx3 x y z) = false
  z1 : Float64.isZero (Float64.add (mx3 x y z) (mn3 x y z)) = false
  z2 : Float64.isZero (Float64.sub (mx3 x y z) (mn3 x y z)) = false
  z3 : Float64.isZero (Float64.sub (Float64.sub 4611686018427387904 (mx3 x y z)) (mn3 x y z)) = false
  ne : (Float64.cmp (mn3 x y z) (mx3 x y z) == some Ordering.eq) = false
structure OkS (x : UInt64) : Prop where
  ne : (Float64.cmp x 0 == some Ordering.eq) = false
/-- a / 16 -/
noncomputable def d16 (a : Int) : UInt64 := Float64.ofFrac (decide (a < 0) != decide ((16 : Int) < 0)) a.natAbs (Int.natAbs 16)
theorem div16 {prog : Program} {w : World} {A : Around} {E : Value → Shared → Prop} {s : Shared} {a : Int} {t u : Tok} {Q : Value → Shared → Prop} (hh : A.handled = none) (ha : a.natAbs < 1000) (h : Q (.float (d16 a) s.toks) { s with toks := s.toks + 1 }) :
    wpAny (model prog w) A (binaryOp .Div (.int a t) (.int 16 u)) Q E s :=
  Flt.div_ii_fits hh (Nat.lt_of_lt_of_le ha (by decide +kernel)) (fun h => absurd h (by decide)) fun _ _ => h
section
variable (a0 a1 a2 b0 b1 b2 g : Int)
noncomputable def lkY : UInt64 := Float64.sub (Float64.sub (d16 g) (yY (d16 a0) (d16 a1) (d16 a2))) (yY (d16 b0) (d16 b1) (d16 b2))
noncomputable def lkI : UInt64 := Float64.sub (Float64.neg (yI (d16 a0) (d16 a1) (d16 a2))) (yI (d16 b0) (d16 b1) (d16 b2))
noncomputable def lkQ : UInt64 := Float64.sub (Float64.neg (yQ (d16 a0) (d16 a1) (d16 a2))) (yQ (d16 b0) (d16 b1) (d16 b2))
noncomputable def lkR : UInt64 := clampF (rR (lkY a0 a1 a2 b0 b1 b2 g) (lkI a0 a1 a2 b0 b1 b2) (lkQ a0 a1 a2 b0 b1 b2))
noncomputable def lkG : UInt64 := clampF (rG (lkY a0 a1 a2 b0 b1 b2 g) (lkI a0 a1 a2 b0 b1 b2) (lkQ a0 a1 a2 b0 b1 b2))
noncomputable def lkB : UInt64 := clampF (rB (lkY a0 a1 a2 b0 b1 b2 g) (lkI a0 a1 a2 b0 b1 b2) (lkQ a0 a1 a2 b0 b1 b2))
end
/-- _law_turned's hue, m1, m2 -/
noncomputable def trH (a0 a1 a2 th : Int) : UInt64 := Float64.add (hueF (d16 a0) (d16 a1) (d16 a2)) (Float64.mul (Float64.ofInt th) 4599676419421066581)
noncomputable def trM1 (a0 a1 a2 : Int) : UInt64 := m1F (lumF (d16 a0) (d16 a1) (d16 a2)) (satF (d16 a0) (d16 a1) (d16 a2))
noncomputable def trM2 (a0 a1 a2 : Int) : UInt64 := m2F (lumF (d16 a0) (d16 a1) (d16 a2)) (satF (d16 a0) (d16 a1) (d16 a2))
noncomputable def trR (a0 a1 a2 th : Int) : UInt64 := vF (trM1 a0 a1 a2) (trM2 a0 a1 a2) (Float64.add (trH a0 a1 a2 th) 4599676419421066581)
noncomputable def trG (a0 a1 a2 th : Int) : UInt64 := vF (trM1 a0 a1 a2) (trM2 a0 a1 a2) (trH a0 a1 a2 th)
noncomputable def trB (a0 a1 a2 th : Int) : UInt64 := vF (trM1 a0 a1 a2) (trM2 a0 a1 a2) (Float64.sub (trH a0 a1 a2 th) 4599676419421066581)
/-- a tuple of three ints comes back -/
noncomputable abbrev RetI3 (a b c : Int) (r : Value) (own : Led) : Prop := ∃ D x y z t1 t2 t3 n, r = .ref D ∧ own = [(D, oTup #[.int x t1, .int y t2, .int z t3] n)] ∧ x = a ∧ y = b ∧ z = c
/-- a float comes back -/
noncomputable abbrev RetF (a : UInt64) (r : Value) (own : Led) : Prop := ∃ x t, r = .float x t ∧ own = [] ∧ x = a
end
section
section
variable {prog : Program} {w : World} {A : Around} {E : Value → Shared → Prop} {s : Shared} {h₀ : Heap} {L : Addr} {m : Str → Option Value} {news : Led} {env : Env}
theorem fresh_ne {h₀ h : Heap} {L D : Addr} {news : Led} (N : News h₀ L h news) (hD : h.get? D = none) : ∀ p ∈ news, p.1 ≠ D := by
  intro p hp e
  have := (N p hp).1
  rw [e, hD] at this
  cases this
theorem push_none {h : Heap} {o : Obj} {D : Addr} (hD : (h.push o).get? D = none) : h.get? D = none := by
  cases e : h.get? D with
  | none => rfl
  | some o' => rw [Heap.get?_push_of_some _ e] at hD; cases hD
/-- a comprehension over what stands still; the element makes nothing that lasts -/
theorem comp_walk {elt : Expr} {x : Str} {scope : Scope} {cl : List (Str × Addr)} {its : Array Value} {F : Value → Value → Prop} {Q : Value → Shared → Prop} {I : Addr} {fp : List Addr} {P : Nat → Value → Prop} {St : Nat → Heap → Prop} {s₂ : Shared}
    (W : Walks prog w A I fp [I] its.size P St) (hP : ∀ i v, P i v → its[i]? = some v) (hst : St 0 s₂.heap) (hfp : ∀ b ∈ fp, b < s₂.heap.objs.size) (hsz : its.size ≤ sizeLine)
    (hI : s.heap.objs.size ≤ I) (e₂ : ∃ h tk, s₂ = { s with heap := h, toks := tk }) (hk₂ : ∀ b o, s.heap.get? b = some o → s₂.heap.get? b = some o)
    (Fh : Fr h₀ L s.heap m) (N : News h₀ L s.heap news)
    (helt : ∀ C v s₃ m₃ E', v ∈ its.toList → s₃.heap.Ns C m₃ → m₃ x = some v → (∀ b o, s.heap.get? b = some o → s₃.heap.get? b = some o) → Fr h₀ L s₃.heap m → News h₀ L s₃.heap news →
      wpAny (model prog w) A (eval elt (compEnvC scope cl C env)) (fun y s₄ => F v y ∧ Keeps s₃ s₄) E' s₃)
    (hQ : ∀ D h' tk ys n, Fr h₀ L h' m → News h₀ L h' ((D, oLst ys n) :: news) → (∀ p ∈ news, p.1 ≠ D) → Paired F its.toList ys → Q (.ref D) { s with heap := h', toks := tk }) :
    ∃ I' fp wr n P St, Value.ref I = .ref I' ∧ Walks prog w A I' fp wr n P St ∧ n ≤ sizeLine ∧ St 0 s₂.heap ∧ (∀ b ∈ fp, b < s₂.heap.objs.size) ∧
      QuietOnC prog w A env scope cl x [] elt wr P (fun _ => true) F s₂ ∧
      (∀ D h' tk ys (vs : List Value), s₂.heap.get? D = none → h'.IsList D ys → h'.PlainList D ys → vs.length = n → (∀ j v, vs[j]? = some v → P j v) → Paired F (vs.filter (fun _ => true)) ys.toList →
        (∀ b o, b ∉ wr → s₂.heap.get? b = some o → h'.get? b = some o) → Q (.ref D) { s₂ with heap := h', toks := tk }) := by
  obtain ⟨h₂, tk₂, rfl⟩ := e₂
  have notI : ∀ b o, s.heap.get? b = some o → b ∉ [I] := fun b o e hm => by
    have := Heap.lt_size e
    rw [List.mem_singleton.mp hm] at this
    exact Nat.lt_irrefl _ (Nat.lt_of_lt_of_le this hI)
  refine ⟨I, fp, [I], its.size, P, St, rfl, W, hsz, hst, hfp, ⟨?_, ?_⟩, ?_⟩
  · intro C i v s₃ m₃ E' _ hPv hn hm hold _
    exact wpAny_pure ⟨rfl, _, _, rfl, fun _ _ e => e⟩
  · intro C i v s₃ m₃ E' _ hPv _ hn hm hold _
    have hk : ∀ b o, s.heap.get? b = some o → s₃.heap.get? b = some o := fun b o e => hold b o (notI b o e) (hk₂ b o e)
    exact helt C v s₃ m₃ E' (by have := hP i v hPv; exact Array.mem_toList_iff.mpr (Array.mem_of_getElem? this)) hn hm hk (Fh.grownK hk) (N.grown hk)
  · intro D h' tk ys vs hD hl hpl hlen hPs hF hk
    have hk' : ∀ b o, s.heap.get? b = some o → h'.get? b = some o := fun b o e => hk b o (notI b o e) (hk₂ b o e)
    have hD0 : s.heap.get? D = none := by
      cases e : s.heap.get? D with
      | none => rfl
      | some o' => rw [hk₂ D o' e] at hD; cases hD
    have ev : vs = its.toList := list_of_places hlen fun j v hj => hP j v (hPs j v hj)
    rw [List.filter_eq_self.mpr (fun _ _ => rfl), ev] at hF
    obtain ⟨n, hn⟩ := hpl
    refine hQ D h' tk ys.toList n (Fh.grownK hk') (fun p hp => ?_) (fresh_ne N hD0) hF
    rcases List.mem_cons.mp hp with rfl | hp
    · refine ⟨hn, ?_, ?_⟩
      · rintro rfl
        obtain ⟨o, _, _, ho, _⟩ := Fh.ns
        rw [hD0] at ho; cases ho
      · cases e : h₀.get? D with
        | none => rfl
        | some o' => rw [Fh.keep _ _ e] at hD0; cases hD0
    · exact N.grown hk' p hp
theorem comp_tup {elt : Expr} {x : Str} {scope : Scope} {cl : List (Str × Addr)} {l : Addr} {its : Array Value} {F : Value → Value → Prop} {Q : Value → Shared → Prop} (hh : A.handled = none) (ht : s.heap.IsTuple l its) (hsz : its.size ≤ sizeLine)
    (Fh : Fr h₀ L s.heap m) (N : News h₀ L s.heap news)
    (helt : ∀ C v s₃ m₃ E', v ∈ its.toList → s₃.heap.Ns C m₃ → m₃ x = some v → (∀ b o, s.heap.get? b = some o → s₃.heap.get? b = some o) → Fr h₀ L s₃.heap m → News h₀ L s₃.heap news →
      wpAny (model prog w) A (eval elt (compEnvC scope cl C env)) (fun y s₄ => F v y ∧ Keeps s₃ s₄) E' s₃)
    (hQ : ∀ D h' tk ys n, Fr h₀ L h' m → News h₀ L h' ((D, oLst ys n) :: news) → (∀ p ∈ news, p.1 ≠ D) → Paired F its.toList ys → Q (.ref D) { s with heap := h', toks := tk }) :
    wpAny (model prog w) A (pyIter (.ref l)) (fun it s₂ => ∃ I fp wr n P St, it = .ref I ∧ Walks prog w A I fp wr n P St ∧ n ≤ sizeLine ∧ St 0 s₂.heap ∧ (∀ b ∈ fp, b < s₂.heap.objs.size) ∧
      QuietOnC prog w A env scope cl x [] elt wr P (fun _ => true) F s₂ ∧
      (∀ D h' tk ys (vs : List Value), s₂.heap.get? D = none → h'.IsList D ys → h'.PlainList D ys → vs.length = n → (∀ j v, vs[j]? = some v → P j v) → Paired F (vs.filter (fun _ => true)) ys.toList →
        (∀ b o, b ∉ wr → s₂.heap.get? b = some o → h'.get? b = some o) → Q (.ref D) { s₂ with heap := h', toks := tk })) E s := by
  obtain ⟨ol, hol, _⟩ := id ht
  have hlt : l < s.heap.objs.size := Heap.lt_size hol
  refine wpAny_pyIter_tuple ht ?_
  refine comp_walk (Walks.tuple hh s.heap.objs.size l (Nat.ne_of_lt hlt) its) (fun _ _ h => h) ⟨⟨_, Heap.get?_push_size _ rfl, rfl, rfl⟩, ht.push _⟩ ?_ hsz (Nat.le_refl _) ⟨_, _, rfl⟩ (fun b o e => Heap.get?_push_of_some _ e) Fh N helt hQ
  intro b hb
  show b < (s.heap.push _).objs.size
  rw [Heap.size_push]
  rcases List.mem_cons.mp hb with rfl | hb
  · exact Nat.lt_succ_self _
  · rw [List.mem_singleton.mp hb]; exact Nat.lt_succ_of_lt hlt
theorem comp_list {elt : Expr} {x : Str} {scope : Scope} {cl : List (Str × Addr)} {l : Addr} {its : Array Value} {F : Value → Value → Prop} {Q : Value → Shared → Prop} (hh : A.handled = none) (ht : s.heap.IsList l its) (hsz : its.size ≤ sizeLine)
    (Fh : Fr h₀ L s.heap m) (N : News h₀ L s.heap news)
    (helt : ∀ C v s₃ m₃ E', v ∈ its.toList → s₃.heap.Ns C m₃ → m₃ x = some v → (∀ b o, s.heap.get? b = some o → s₃.heap.get? b = some o) → Fr h₀ L s₃.heap m → News h₀ L s₃.heap news →
      wpAny (model prog w) A (eval elt (compEnvC scope cl C env)) (fun y s₄ => F v y ∧ Keeps s₃ s₄) E' s₃)
    (hQ : ∀ D h' tk ys n, Fr h₀ L h' m → News h₀ L h' ((D, oLst ys n) :: news) → (∀ p ∈ news, p.1 ≠ D) → Paired F its.toList ys → Q (.ref D) { s with heap := h', toks := tk }) :
    wpAny (model prog w) A (pyIter (.ref l)) (fun it s₂ => ∃ I fp wr n P St, it = .ref I ∧ Walks prog w A I fp wr n P St ∧ n ≤ sizeLine ∧ St 0 s₂.heap ∧ (∀ b ∈ fp, b < s₂.heap.objs.size) ∧
      QuietOnC prog w A env scope cl x [] elt wr P (fun _ => true) F s₂ ∧
      (∀ D h' tk ys (vs : List Value), s₂.heap.get? D = none → h'.IsList D ys → h'.PlainList D ys → vs.length = n → (∀ j v, vs[j]? = some v → P j v) → Paired F (vs.filter (fun _ => true)) ys.toList →
        (∀ b o, b ∉ wr → s₂.heap.get? b = some o → h'.get? b = some o) → Q (.ref D) { s₂ with heap := h', toks := tk })) E s := by
  obtain ⟨ol, hol, _⟩ := id ht
  have hlt : l < s.heap.objs.size := Heap.lt_size hol
  refine wpAny_pyIter_list ht ?_
  refine comp_walk (Walks.list hh s.heap.objs.size l (Nat.ne_of_lt hlt) its) (fun _ _ h => h) ⟨⟨_, Heap.get?_push_size _ rfl, rfl, rfl⟩, ht.push _⟩ ?_ hsz (Nat.le_refl _) ⟨_, _, rfl⟩ (fun b o e => Heap.get?_push_of_some _ e) Fh N helt hQ
  intro b hb
  show b < (s.heap.push _).objs.size
  rw [Heap.size_push]
  rcases List.mem_cons.mp hb with rfl | hb
  · exact Nat.lt_succ_self _
  · rw [List.mem_singleton.mp hb]; exact Nat.lt_succ_of_lt hlt
end
end
section
theorem inplace_list {M : Model} {A : Around} {E : Value → Shared → Prop} {s : Shared} {a b : Value} {Q : Value → Shared → Prop} (ha : s.TypeIs a "list") (hb : s.TypeIs b "list")
    (hc : wpAny M A (call (.builtin "list.__iadd__") [a, b]) Q E s) : wpAny M A (inplaceOp .Add a b) Q E s := by
  unfold inplaceOp
  refine wpAny_holding ?_
  have hi : typeLookup (.type "list") (dunderI "add") = pure (some (.builtin "list.__iadd__")) := F.slot_list_iadd.lookup
  have hfi : fillsInplaceSlot (.type "list") "add" (Operator.Add == .Add) = pure false := by
    unfold fillsInplaceSlot
    show (typeLookup (.type "list") (dunderI "add") >>= fun fi => pure (fi.isSome && !isSeqSlot fi)) = pure false
    rw [hi]
    show pure (true && !isSeqSlot (some (.builtin "list.__iadd__"))) = (pure false : Sem Bool)
    have : isSeqSlot (some (.builtin "list.__iadd__")) = true := by decide +kernel
    rw [this]; rfl
  have hfill : fillsNumberSlot (.type "list") "add" = pure false := PySem.fillsNumberSlot_seq (id := "list.__add__") (r := none) F.slot_list_add.lookup (by decide +kernel) (by rw [typeLookup_type, builtinLookup_eq_fast]; kernel_rfl) rfl
  refine wpAny_bind (wpAny_typeOf ha (wpAny_bind (wpAny_of_eq hfi ?_)))
  show wpAny M A (if false = true then _ else _) Q E s
  rw [if_neg Bool.false_ne_true]
  refine wpAny_bind (wpAny_binaryOp1_none (nm := "add") ha hb hfill ?_)
  refine wpAny_bind (wpAny_of_eq (PySem.seqSlot_of hi (by decide +kernel)) ?_)
  exact wpAny_bind (wpAny_rule hc)
section
variable {prog : Program} {w : World} {A : Around} {E : Value → Shared → Prop} {s : Shared} {h₀ : Heap} {L D : Addr} {m : Str → Option Value} {news need : Led} {l : List Value} {n : Nat}
/-- what of the ledger stands beside D -/
noncomputable def Beside (D : Addr) (need news : Led) : Prop := ∀ p ∈ need, p ∈ news ∧ p.1 ≠ D
theorem bes_nil {D : Addr} {news : Led} : Beside D [] news := fun _ h => nomatch h
theorem bes_cons {D : Addr} {p : Addr × Obj} {need news : Led} (hm : p ∈ news) (hn : p.1 ≠ D) (h : Beside D need news) : Beside D (p :: need) news := by
  intro q hq
  rcases List.mem_cons.mp hq with rfl | hq
  · exact ⟨hm, hn⟩
  · exact h q hq
theorem bes_all {D : Addr} {need news : Led} (hs : ∀ p ∈ need, p ∈ news) (hn : ∀ p ∈ need, p.1 ≠ D) : Beside D need news := fun p hp => ⟨hs p hp, hn p hp⟩
theorem bes_app {D : Addr} {a b news : Led} (h : Beside D a news) (k : Beside D b news) : Beside D (a ++ b) news := fun p hp => (List.mem_append.mp hp).elim (h p) (k p)
theorem bes_nil0 {D : Addr} : Beside D [] [] := fun _ h => nomatch h
theorem sub_cons' {p : Addr × Obj} {l r : Led} (hm : p ∈ l) (h : ∀ q ∈ r, q ∈ l) : ∀ q ∈ p :: r, q ∈ l := fun q hq => by
  rcases List.mem_cons.mp hq with rfl | hq
  · exact hm
  · exact h q hq
theorem sub_nil' {l : Led} : ∀ q ∈ ([] : Led), q ∈ l := fun _ h => nomatch h
theorem news_sub {h₀ h : Heap} {L : Addr} {l r : Led} (N : News h₀ L h l) (hs : ∀ p ∈ r, p ∈ l) : News h₀ L h r := fun p hp => N p (hs p hp)
theorem ne_cons {D b : Addr} {o : Obj} {r : Led} (hb : b ≠ D) (h : ∀ p ∈ r, p.1 ≠ D) : ∀ p ∈ (b, o) :: r, p.1 ≠ D := fun q hq => by
  rcases List.mem_cons.mp hq with rfl | hq
  · exact hb
  · exact h q hq
theorem ne_nil' {D : Addr} : ∀ p ∈ ([] : Led), p.1 ≠ D := fun _ h => nomatch h
theorem bes_skip {D : Addr} {o : Obj} {need rest : Led} (h : Beside D need rest) : Beside D need ((D, o) :: rest) := fun p hp => ⟨.tail _ (h p hp).1, (h p hp).2⟩
theorem bes_take {D b : Addr} {o : Obj} {need rest : Led} (hb : b ≠ D) (h : Beside D need rest) : Beside D ((b, o) :: need) ((b, o) :: rest) := by
  intro p hp
  rcases List.mem_cons.mp hp with rfl | hp
  · exact ⟨.head _, hb⟩
  · exact ⟨.tail _ (h p hp).1, (h p hp).2⟩
theorem bes_tail {D : Addr} {rest : Led} (h : ∀ p ∈ rest, p.1 ≠ D) : Beside D rest rest := fun p hp => ⟨hp, h p hp⟩
theorem ne_allLt {D : Addr} {rest : Led} (h : AllLt D rest) : ∀ p ∈ rest, p.1 ≠ D := fun p hp => Nat.ne_of_lt (ktn_ltOf h p hp)
theorem ne_lt' {D : Addr} {rest : Led} (h : ∀ p ∈ rest, p.1 < D) : ∀ p ∈ rest, p.1 ≠ D := fun p hp => Nat.ne_of_lt (h p hp)
theorem lt_of_mem {D b : Addr} {o : Obj} {rest : Led} (h : AllLt D rest) (hm : (b, o) ∈ rest) : b < D := ktn_ltOf h _ hm
theorem news_front {h₀ h : Heap} {L : Addr} {p : Addr × Obj} {l : Led} (hm : p ∈ l) (N : News h₀ L h l) : News h₀ L h (p :: l) := fun q hq => by
  rcases List.mem_cons.mp hq with rfl | hq
  · exact N _ hm
  · exact N q hq
theorem idx_last {l : List Value} {v : Value} : (l ++ [v])[((-1 : Int) + (((l ++ [v]).length : Nat) : Int)).toNat]? = some v := by
  have : ((-1 : Int) + (((l ++ [v]).length : Nat) : Int)).toNat = l.length := by
    rw [List.length_append, List.length_singleton]; exact linn [_, _] [] (.v 0) (.v 1) (.E (-1) (.z (.v 0)) (.a (.i (-1)) (.z (.a (.v 1) (.c 1)))) .n) (by kernel_rfl) (Int.toNat_of_nonneg (Int.not_lt.mp (fun u9 => lin [_] [] (.L 1 (.a (.a (.i (-1)) (.z (.a (.v 0) (.c 1)))) (.i 1)) (.i 0) .n) (by kernel_rfl) u9)))
  rw [this]; simp
theorem cut_stmt {α : Type} {M : Model} {A : Around} {t : Sem α} {Mid Q : α → Shared → Prop} {E : Value → Shared → Prop} {s : Shared} (h : wpAny M A t Mid E s) (k : ∀ f s', Mid f s' → Q f s') : wpAny M A t Q E s := wpAny_mono h k fun _ _ e => e
theorem news_put {h h' : Heap} {o' : Obj} (N : News h₀ L h news) {o : Obj} (hm : (D, o) ∈ news) (hb : Beside D need news) (hs : Heap.SameBut D h h') (ho : h'.get? D = some o') : News h₀ L h' ((D, o') :: need) := by
  intro q hq
  rcases List.mem_cons.mp hq with rfl | hq
  · exact ⟨ho, (N _ hm).2⟩
  · exact ⟨(hs.2 q.1 (hb q hq).2).trans (N q (hb q hq).1).1, (N q (hb q hq).1).2⟩
theorem set_at {k : Int} {t : Tok} {v : Value} {Q : Unit → Shared → Prop} (F : Fr h₀ L s.heap m) (N : News h₀ L s.heap news) (hm : (D, oLst l n) ∈ news) (hb : Beside D need news) (h0 : 0 ≤ k) (h1 : k < l.length) (hz : l.length < 2 ^ 60)
    (h : ∀ h', Fr h₀ L h' m → News h₀ L h' ((D, oLst (l.set k.toNat v) n) :: need) → Q () { s with heap := h' }) : wpAny (model prog w) A (setItem (.ref D) (.int k t) v) Q E s := by
  have z := N _ hm
  have hs : Heap.SameBut D s.heap (s.heap.update D (Obj.mapSeq (·.setIfInBounds k.toNat v))) := Heap.SameBut.update ..
  refine ki_setAt (n := n) (items := l.toArray) z.1 h0 (by exact Int.not_le.mp (fun u9 => lin [_] [_] (.L 1 (.i (2 ^ 63)) (.v 0) (.L 1 (.a (.v 0) (.i 1)) (.z (.v 0)) (.l 1 (.a (.v 0) (.c 1)) (.c (2 ^ 60)) .n))) (by kernel_rfl) u9 h1 hz)) (by simpa using h1) (h _ (F.change hs z.2.1 z.2.2) (news_put N hm hb hs ?_))
  have q := PySem.IsL.update z.1 (·.setIfInBounds k.toNat v)
  have e1 : l.toArray.setIfInBounds k.toNat v = (l.set k.toNat v).toArray := by apply Array.toList_inj.mp; simp
  rw [e1] at q
  have e2 : (if (l.set k.toNat v).toArray.size == l.toArray.size then n else n + 1) = n := by simp
  rw [e2] at q
  exact q
theorem del_at {k : Int} {t : Tok} {Q : Unit → Shared → Prop} (F : Fr h₀ L s.heap m) (N : News h₀ L s.heap news) (hm : (D, oLst l n) ∈ news) (hb : Beside D need news) (h0 : 0 ≤ k) (h1 : k < l.length) (hz : l.length ≤ 4096)
    (h : ∀ h', Fr h₀ L h' m → News h₀ L h' ((D, oLst (l.eraseIdx k.toNat) (n + 1)) :: need) → Q () { s with heap := h' }) : wpAny (model prog w) A (delItem (.ref D) (.int k t)) Q E s := by
  have z := N _ hm
  refine delItem_at (n := n) (its := l.toArray) (k := k.toNat) z.1 ?_ ?_ (fun h' hs ho => h h' (F.change hs z.2.1 z.2.2) (news_put N hm hb hs ho)) (by rw [List.size_toArray, sizeLine_eq]; exact Nat.not_lt.mp (fun u9 => lin [_] [] (.l 1 (.a (.c 16777216) (.c 1)) (.v 0) (.l 1 (.v 0) (.c 4096) .n)) (by kernel_rfl) u9 hz))
  · unfold Builtin.List.listFitsIndex
    simp; exact ⟨Int.not_lt.mp (fun u9 => lin [] [_] (.L 1 (.a (.v 0) (.i 1)) (.i (-9223372036854775808)) (.L 1 (.i 0) (.v 0) .n)) (by kernel_rfl) u9 h0), Int.not_le.mp (fun u9 => lin [_] [_] (.L 1 (.i 9223372036854775808) (.v 0) (.L 1 (.a (.v 0) (.i 1)) (.z (.v 0)) (.l 1 (.v 0) (.c 4096) .n))) (by kernel_rfl) u9 h1 hz)⟩
  · have e1 : ¬ k < 0 := by exact fun u9 => lin [] [_] (.L 1 (.a (.v 0) (.i 1)) (.i 0) (.L 1 (.i 0) (.v 0) .n)) (by kernel_rfl) u9 h0
    have e2 : k.toNat < l.length := by exact Nat.not_le.mp (fun u9 => lin [_, _] [_] (.l 1 (.v 0) (.v 1) (.L 1 (.a (.v 0) (.i 1)) (.z (.v 0)) (.E 1 (.z (.v 1)) (.v 0) .n))) (by kernel_rfl) u9 h1 (Int.toNat_of_nonneg (Int.not_lt.mp (fun u9 => lin [] [_] (.L 1 (.a (.v 0) (.i 1)) (.i 0) (.L 1 (.i 0) (.v 0) .n)) (by kernel_rfl) u9 h0))))
    simp [seqIndex?, List.size_toArray, e1, h0, h1]
theorem append_at' {x : Value} {Q : Value → Shared → Prop} (F : Fr h₀ L s.heap m) (N : News h₀ L s.heap news) (hm : (D, oLst l n) ∈ news) (hb : Beside D need news) (hz : l.length ≤ 4096)
    (h : ∀ h', Fr h₀ L h' m → News h₀ L h' ((D, oLst (l ++ [x]) (n + 1)) :: need) → Q .none { s with heap := h' }) : wpAny (model prog w) A (call (.builtin "list.append") [.ref D, x]) Q E s := by
  have z := N _ hm
  refine append_at (hsz := by rw [List.size_toArray, sizeLine_eq]; exact Nat.not_lt.mp (fun u9 => lin [_] [] (.l 1 (.a (.c 16777216) (.c 1)) (.v 0) (.l 1 (.v 0) (.c 4096) .n)) (by kernel_rfl) u9 hz)) z.1 fun h' hs ho' => h h' (F.change hs z.2.1 z.2.2) (news_put N hm hb hs ?_)
  have e : l.toArray.push x = (l ++ [x]).toArray := by simp
  rw [e] at ho'
  exact ho'
theorem iadd_at {b : Addr} {l2 : List Value} {n2 : Nat} {Q : Value → Shared → Prop} (F : Fr h₀ L s.heap m) (N : News h₀ L s.heap news) (hm : (D, oLst l n) ∈ news) (hm2 : (b, oLst l2 n2) ∈ news) (hb : Beside D need news) (hz : l.length ≤ 4096) (hz2 : l2.length ≤ 4096)
    (h : ∀ h' n', Fr h₀ L h' m → News h₀ L h' ((D, oLst (l ++ l2) n') :: need) → Q (.ref D) { s with heap := h' }) : wpAny (model prog w) A (inplaceOp .Add (.ref D) (.ref b)) Q E s := by
  have z := N _ hm
  have z2 := N _ hm2
  have hs : Heap.SameBut D s.heap (s.heap.update D (Obj.mapSeq fun x => x ++ l2.toArray)) := Heap.SameBut.update ..
  refine inplace_list ⟨_, z.1, rfl⟩ ⟨_, z2.1, rfl⟩ (call_meets PySem.F.slot_list_iadd ⟨_, z.1, rfl⟩ PySem.F.entry_list_iadd (PySem.F.args_list_iadd_2 _ _)
    (PySem.AutoSeq1.list___iadd___list_list_0 D l.toArray n b l2.toArray n2 ?_ (by rw [List.size_toArray, sizeLine_eq]; exact Nat.not_lt.mp (fun u9 => lin [_] [] (.l 1 (.a (.c 16777216) (.c 1)) (.v 0) (.l 1 (.v 0) (.c 4096) .n)) (by kernel_rfl) u9 hz)) (by rw [List.size_toArray, List.size_toArray, sizeLine_eq]; exact Nat.not_lt.mp (fun u9 => lin [_, _] [] (.l 1 (.a (.c (16777216 + 1)) (.c 1)) (.a (.v 0) (.v 1)) (.l 1 (.v 0) (.c 4096) (.l 1 (.v 1) (.c 4096) .n))) (by kernel_rfl) u9 hz hz2))) ⟨z.1, z2.1, ?_⟩)
  · have : Builtin.List.listTooLong (l.toArray.size + l2.toArray.size) = false := by
      unfold Builtin.List.listTooLong
      rw [List.size_toArray, List.size_toArray, sizeLine_eq]
      simp; exact Nat.not_lt.mp (fun u9 => lin [_, _] [] (.l 1 (.a (.c 16777216) (.c 1)) (.a (.v 0) (.v 1)) (.l 1 (.v 0) (.c 4096) (.l 1 (.v 1) (.c 4096) .n))) (by kernel_rfl) u9 hz hz2)
    rw [this]; simp
  · refine h _ (if (l ++ l2).toArray.size == l.toArray.size then n else n + 1) (F.change hs z.2.1 z.2.2) (news_put N hm hb hs ?_)
    have q := PySem.IsL.update z.1 (fun x => x ++ l2.toArray)
    have e1 : l.toArray ++ l2.toArray = (l ++ l2).toArray := by simp
    rw [e1] at q
    exact q
theorem iadd_bytes {b c : Array UInt8} {t u : Tok} {Q : Value → Shared → Prop} (hsz : b.size + c.size ≤ 16777216) (h : ∀ t' k, Q (.bytes (b ++ c) t') { s with toks := k }) : wpAny (model prog w) A (inplaceOp .Add (.bytes b t) (.bytes c u)) Q E s := by
  refine iconcat_gives (typeIs_bytes s b t) (typeIs_bytes s c u) (by rw [typeLookup_type, builtinLookup_eq_fast]; kernel_rfl) KBy.noFill_bytes_add KBy.seq_bytes_add FB.slot_bytes_add FB.entry_bytes_add (FB.args_bytes_add_2 _ _) (KBy.gives_bytes_add (KBy.tooLong_not hsz)) ?_
  by_cases hb : b.isEmpty = true
  · rw [if_pos hb]
    have e : b = #[] := Array.isEmpty_iff.1 hb
    have h' := h u s.toks
    rw [e, Array.empty_append] at h'
    exact h'
  · rw [if_neg hb]
    by_cases hc : c.isEmpty = true
    · rw [if_pos hc]
      have e : c = #[] := Array.isEmpty_iff.1 hc
      have h' := h t s.toks
      rw [e, Array.append_empty] at h'
      exact h'
    · rw [if_neg hc]
      exact ⟨by rw [Array.size_append, sizeLine_eq]; exact hsz, h s.toks (s.toks + 1)⟩
/-- an item of a made list, at a place in bounds -/
theorem get_at {value slice : PySem.Expr} {k : Int} {u : Tok} {x : Value} {Q : Value → Shared → Prop} (N : News h₀ L s.heap news) (hm : (D, oLst l n) ∈ news) (h0 : 0 ≤ k) (hx : l[k.toNat]? = some x) (hz : l.length < 2 ^ 60) (h : Q x s)
    (hs : subscripted slice false (.ref D) (.int k u) = operate [.ref D, .int k u] (getItem (.ref D) (.int k u)) := by with_unfolding_all rfl) (hg : ∀ r, letTemporaryGo value (.ref D) r = pure () := by intro _; with_unfolding_all rfl) :
    wpAny (model prog w) A (subscriptTail value slice (.ref D) (.int k u)) Q E s := by
  have : k.toNat < l.length := (List.getElem?_eq_some_iff.mp hx).1
  exact kim_list N hm rfl rfl h0 (by exact Int.not_le.mp (fun u9 => lin [_, _] [_] (.L 1 (.i (2 ^ 63)) (.v 0) (.l 1 (.a (.v 0) (.c 1)) (.c (2 ^ 60)) (.l 1 (.a (.v 1) (.c 1)) (.v 0) (.E (-1) (.z (.v 1)) (.v 0) .n)))) (by kernel_rfl) u9 hz this (Int.toNat_of_nonneg (Int.not_lt.mp (fun u9 => lin [_] [_] (.L 1 (.a (.v 0) (.i 1)) (.i 0) (.E 1 (.z (.v 0)) (.v 0) .n)) (by kernel_rfl) u9 (Int.toNat_of_nonneg (Int.not_lt.mp (fun u9 => lin [] [_] (.L 1 (.a (.v 0) (.i 1)) (.i 0) (.L 1 (.i 0) (.v 0) .n)) (by kernel_rfl) u9 h0)))))))) hx h hs hg
theorem get_back {value slice : PySem.Expr} {k : Int} {u : Tok} {x : Value} {Q : Value → Shared → Prop} (N : News h₀ L s.heap news) (hm : (D, oLst l n) ∈ news) (h0 : k < 0) (h1 : -(l.length : Int) ≤ k) (hx : l[(k + (l.length : Int)).toNat]? = some x) (hz : l.length < 2 ^ 60) (h : Q x s)
    (hs : subscripted slice false (.ref D) (.int k u) = operate [.ref D, .int k u] (getItem (.ref D) (.int k u)) := by with_unfolding_all rfl) (hg : ∀ r, letTemporaryGo value (.ref D) r = pure () := by intro _; with_unfolding_all rfl) :
    wpAny (model prog w) A (subscriptTail value slice (.ref D) (.int k u)) Q E s :=
  kim_back N hm rfl rfl h0 h1 (by exact Int.not_lt.mp (fun u9 => lin [_] [_] (.L 1 (.a (.v 0) (.i 1)) (.i (-(2 ^ 63))) (.L 1 (.g (.z (.v 0))) (.v 0) (.l 1 (.a (.v 0) (.c 1)) (.c (2 ^ 60)) .n))) (by kernel_rfl) u9 h1 hz)) hx h hs hg
end
section
variable {prog : Program} {w : World} {A : Around} {E : Value → Shared → Prop} {s : Shared} {h₀ : Heap} {L a b : Addr} {m : Str → Option Value} {news need : Led} {a0 a1 a2 b0 b1 b2 : Int} {t0 t1 t2 u0 u1 u2 : Tok} {n k : Nat}
theorem reads_t3 {h : Heap} (hg : h.get? a = some (oTup #[.int a0 t0, .int a1 t1, .int a2 t2] n)) : Reads h (.ref a) (.tuple [.int a0, .int a1, .int a2]) [] :=
  reads_tuple_at hg rfl rfl (.cons (.int _ _) (.cons (.int _ _) (.cons (.int _ _) .nil)))
theorem eqv_t3 : PyData.eqv (.tuple [.int a0, .int a1, .int a2]) (.tuple [.int b0, .int b1, .int b2]) = decide (a0 = b0 ∧ a1 = b1 ∧ a2 = b2) := by
  simp only [PyData.eqv, PyData.eqvAll, Bool.and_true]
  by_cases h0 : a0 = b0 <;> by_cases h1 : a1 = b1 <;> by_cases h2 : a2 = b2 <;> simp [h0, h1, h2]
theorem ne_t3 {Q : Value → Shared → Prop} (N : News h₀ L s.heap news) (hm1 : (a, oTup #[.int a0 t0, .int a1 t1, .int a2 t2] n) ∈ news) (hm2 : (b, oTup #[.int b0 u0, .int b1 u1, .int b2 u2] k) ∈ news) (hu : A.units + 64 < cLine)
    (h : Q (.bool (!decide (a0 = b0 ∧ a1 = b1 ∧ a2 = b2))) s) : wpAny (model prog w) A (compareOp .NotEq (.ref a) (.ref b)) Q E s :=
  ne_dataH (reads_t3 (N _ hm1).1) (reads_t3 (N _ hm2).1) rfl rfl hu (by rw [eqv_t3]; exact h)
theorem eq_t3 {Q : Value → Shared → Prop} (N : News h₀ L s.heap news) (hm1 : (a, oTup #[.int a0 t0, .int a1 t1, .int a2 t2] n) ∈ news) (hm2 : (b, oTup #[.int b0 u0, .int b1 u1, .int b2 u2] k) ∈ news) (hu : A.units + 64 < cLine)
    (h : Q (.bool (decide (a0 = b0 ∧ a1 = b1 ∧ a2 = b2))) s) : wpAny (model prog w) A (compareOp .Eq (.ref a) (.ref b)) Q E s :=
  eq_dataH (reads_t3 (N _ hm1).1) (reads_t3 (N _ hm2).1) rfl rfl hu (by rw [eqv_t3]; exact h)
end
end
section
/-- what a turn of a for loop leaves; keep: what the loop itself holds -/
noncomputable def TurnOk (h₀ : Heap) (L : Addr) (I : Addr) (keep : Led) (J : (Str → Option Value) → Led → Prop) (s : Shared) (Q : Flow → Shared → Prop) (f : Flow) (s₂ : Shared) : Prop :=
  match f with
  | .ret v => Q (.ret v) s₂
  | .brk => Q .next s₂
  | _ => ∃ h' tk m' news', s₂ = { s with heap := h', toks := tk } ∧ Fr h₀ L h' m' ∧ News h₀ L h' (keep ++ news') ∧ (∀ p ∈ news', p.1 ≠ I) ∧ J m' news'
theorem TurnOk.intro {h₀ : Heap} {L : Addr} {I : Addr} {keep : Led} {J : (Str → Option Value) → Led → Prop} {s : Shared} {Q : Flow → Shared → Prop} {h' : Heap} {tk : Nat} {m' : Str → Option Value} {news' : Led}
    (F : Fr h₀ L h' m') (N : News h₀ L h' (keep ++ news')) (hn : ∀ p ∈ news', p.1 ≠ I) (hj : J m' news') : TurnOk h₀ L I keep J s Q .next { s with heap := h', toks := tk } :=
  ⟨h', tk, m', news', rfl, F, N, hn, hj⟩
theorem ints_at {vs : List Value} {ns : List Int} (h : IntsAre vs ns) {i : Nat} {v : Value} (hv : vs[i]? = some v) : ∃ x t, v = .int x t ∧ ns[i]? = some x := by
  have h1 := (List.getElem?_eq_some_iff.mp hv).1
  rw [h.length] at h1
  obtain ⟨t, ht⟩ := h.get i ns[i] (by simp [h1])
  rw [hv] at ht
  exact ⟨ns[i], t, Option.some.inj ht, by simp [h1]⟩
theorem ints_snoc {vs : List Value} {ns : List Int} (h : IntsAre vs ns) (k : Int) (t : Tok) : IntsAre (vs ++ [.int k t]) (ns ++ [k]) := by
  induction h with
  | nil => exact .cons _ _ .nil
  | cons i u _ ih => exact .cons i u ih
/-- a word that the walk does not open -/
structure Cut (P : Prop) : Prop where
  out : P
theorem expose {m : Str → Option Value} {x : Str} {v : Value} (h : m x = some v) : m = fun y => if y = x then some v else m y := by
  funext y
  by_cases e : y = x
  · subst e; simp [h]
  · simp [e]
section
variable {prog : Program} {w : World} {A : Around} {E : Value → Shared → Prop} {s : Shared} {env : Env} {h₀ : Heap} {x : Str} {body : List Stmt} {Q : Flow → Shared → Prop}
theorem iter_made {l : Addr} {its : List Value} {n : Nat} {m₀ : Str → Option Value} {news : Led} (J : Nat → (Str → Option Value) → Led → Prop)
    (hh : A.handled = none) (F : Fr h₀ env.locals s.heap m₀) (N : News h₀ env.locals s.heap ((l, oLst its n) :: news)) (hj : J 0 m₀ news)
    (turn : ∀ i v m₁ news₁ h tk I io, its[i]? = some v → J i m₁ news₁ → (∀ p ∈ news₁, p.1 ≠ I) → (∀ p ∈ news, p.1 < I) → l < I → Fr h₀ env.locals h (fun y => if y = x then some v else m₁ y) → News h₀ env.locals h ((I, io) :: (l, oLst its n) :: news₁) →
      wpAny (model prog w) A (execs body env) (TurnOk h₀ env.locals I [(I, io), (l, oLst its n)] (J (i + 1)) s Q) E { s with heap := h, toks := tk })
    (done : ∀ m₁ news₁ h tk, J its.length m₁ news₁ → Fr h₀ env.locals h m₁ → News h₀ env.locals h ((l, oLst its n) :: news₁) → Q .next { s with heap := h, toks := tk }) :
    wpAny (model prog w) A (pyIter (.ref l)) (fun it s₂ => LoopAtV prog w A h₀ env x body Q E it s₂) E s := by
  have hol := (N _ (.head _)).1
  have hls : s.heap.IsList l its.toArray := ⟨_, hol, rfl, n, rfl⟩
  have hlt : l < s.heap.objs.size := Heap.lt_size hol
  refine wpAny_pyIter_list hls ?_
  have W := Walks.list (prog := prog) (w := w) hh s.heap.objs.size l (Nat.ne_of_lt hlt) its.toArray
  have hnew := next_is_new F
  have nI : ∀ p ∈ news, p.1 ∉ [s.heap.objs.size] := fun p hp hI => absurd (Heap.lt_size (N p (.tail _ hp)).1) ((List.mem_singleton.mp hI) ▸ Nat.lt_irrefl _)
  let J' : Nat → (Str → Option Value) → Led → Prop := fun i m₁ nw => ∃ news₁, nw = (l, oLst its n) :: news₁ ∧ J i m₁ news₁
  refine ⟨_, _, _, its.toArray.size, _, _, m₀, (l, oLst its n) :: news, J', rfl, W, ?_, ?_, ?_, ⟨⟨_, Heap.get?_push_size _ rfl, rfl, rfl⟩, hls.at fun o e => Heap.get?_push_of_some _ e⟩, F.push _, (fun p hp => ⟨Heap.get?_push_of_some _ (N p hp).1, (N p hp).2⟩), ⟨news, rfl, hj⟩, ?_, ?_⟩
  · intro hm
    rcases List.mem_cons.mp hm with e | hm
    · exact absurd F.ns.lt (e ▸ Nat.lt_irrefl _)
    · exact (N _ (.head _)).2.1 (List.mem_singleton.mp hm).symm
  · intro b hb
    rw [List.mem_singleton.mp hb]
    exact hnew
  · intro p hp hI
    exact absurd (Heap.lt_size (N p hp).1) ((List.mem_singleton.mp hI) ▸ Nat.lt_irrefl _)
  · rintro i v m₁ news₁ s₁ own ⟨hh', tk', rfl⟩ hin hP ⟨nw, rfl, hJ⟩ hoff hown hget hall hst F₁ N₁
    obtain ⟨⟨io, hio, _⟩, _⟩ := hst
    have hmem := hall s.heap.objs.size (List.mem_cons.mpr (.inl rfl)) hnew io hio
    have N₂ : News h₀ env.locals hh' ((s.heap.objs.size, io) :: (l, oLst its n) :: nw) := fun p hp => by
      rcases List.mem_cons.mp hp with rfl | hp
      · exact N₁ _ (List.mem_append_left _ hmem)
      · exact N₁ _ (List.mem_append_right _ hp)
    have hP' : its[i]? = some v := by simpa using hP
    have hl' : hh'.get? l = some (oLst its n) := (N₂ _ (.tail _ (.head _))).1
    refine wpAny_mono (turn i v m₁ nw hh' tk' s.heap.objs.size io hP' hJ (fun p hp e => hoff p (.tail _ hp) (List.mem_singleton.mpr e)) (fun p hp => Heap.lt_size (N p (.tail _ hp)).1) hlt F₁ N₂) (fun f s₂ p => ?_) fun _ _ e => e
    have fin : (∃ h' tk m' news', s₂ = { s with heap := h', toks := tk } ∧ Fr h₀ env.locals h' m' ∧ News h₀ env.locals h' ([(s.heap.objs.size, io), (l, oLst its n)] ++ news') ∧ (∀ p ∈ news', p.1 ≠ s.heap.objs.size) ∧ J (i + 1) m' news') →
        LoopStepU h₀ env.locals [s.heap.objs.size] own (J' (i + 1)) { s with heap := hh', toks := tk' } .next s₂ := by
      rintro ⟨h', tk, m', news', rfl, F', N', hn, hj'⟩
      refine ⟨rfl, h', tk, m', (l, oLst its n) :: news', rfl, F', fun p hp => ?_, fun p hp hI => ?_, news', rfl, hj'⟩
      · rcases List.mem_append.mp hp with hp | hp
        · have h1 := hown p hp
          have h2 : hh'.get? p.1 = some p.2 := hget p hp
          rcases List.mem_cons.mp h1 with e | e
          · have : p = (s.heap.objs.size, io) := by
              rw [e, hio] at h2
              exact Prod.ext e (Option.some.inj h2).symm
            rw [this]; exact N' _ (.head _)
          · have e := List.mem_singleton.mp e
            have : p = (l, oLst its n) := by
              rw [e, hl'] at h2
              exact Prod.ext e (Option.some.inj h2).symm
            rw [this]; exact N' _ (.tail _ (.head _))
        · rcases List.mem_cons.mp hp with rfl | hp
          · exact N' _ (.tail _ (.head _))
          · exact N' _ (.tail _ (.tail _ hp))
      · have hI' := List.mem_singleton.mp hI
        rcases List.mem_cons.mp hp with rfl | hp
        · exact absurd hI' (Nat.ne_of_lt hlt)
        · exact hn p hp hI'
    cases f with
    | ret v => exact .ret p
    | brk => exact .brk p
    | next => exact .next (fin p)
    | cont => exact .cont (fin p)
  · rintro h' tk m' news' F' N' _ ⟨nw, rfl, hJ⟩
    exact done m' nw h' tk (by simpa using hJ) F' N'
theorem iter_rangeJ {r : Addr} {a₀ b₀ : Int} {t₀ u₀ v₀ : Tok} {n : Nat} {m₀ : Str → Option Value} {news : Led} (J : Nat → (Str → Option Value) → Led → Prop)
    (hh : A.handled = none) (hr : IsRange s.heap r a₀ b₀ 1 t₀ u₀ v₀) (hsmall : Builtin.Range.small a₀ b₀ 1 = true) (hn : Builtin.Range.rangeSize a₀ b₀ 1 = (n : Int)) (F : Fr h₀ env.locals s.heap m₀) (N : News h₀ env.locals s.heap news) (hj : J 0 m₀ news)
    (turn : ∀ i t m₁ news₁ h tk I io, i < n → J i m₁ news₁ → (∀ p ∈ news₁, p.1 ≠ I) → (∀ p ∈ news, p.1 < I) → Fr h₀ env.locals h (fun y => if y = x then some (.int (a₀ + (i : Int)) t) else m₁ y) → News h₀ env.locals h ((I, io) :: news₁) →
      wpAny (model prog w) A (execs body env) (TurnOk h₀ env.locals I [(I, io)] (J (i + 1)) s Q) E { s with heap := h, toks := tk })
    (done : ∀ m₁ news₁ h tk, J n m₁ news₁ → Fr h₀ env.locals h m₁ → News h₀ env.locals h news₁ → Q .next { s with heap := h, toks := tk }) :
    wpAny (model prog w) A (pyIter (.ref r)) (fun it s₂ => LoopAtV prog w A h₀ env x body Q E it s₂) E s := by
  refine wpAny_pyIter_range hr hsmall ?_
  have W : Walks prog w A s.heap.objs.size [s.heap.objs.size] [s.heap.objs.size] n (fun i v => i < n ∧ ∃ t, v = .int (a₀ + i * 1) t)
      (fun i h => IsRangeIter h s.heap.objs.size (a₀ + (i : Nat) * 1) ((n : Int) - (i : Nat)) 1) := (Walks.range hh _ a₀ 1 n).bound
  have hnew := next_is_new F
  refine ⟨_, _, _, n, _, _, m₀, news, J, rfl, W, ?_, ?_, ?_, (by show IsRangeIter _ _ _ _ _; rw [hn]; simpa using Heap.get?_push_size _ rfl), F.push _, (fun p hp => ⟨Heap.get?_push_of_some _ (N p hp).1, (N p hp).2⟩), hj, ?_, ?_⟩
  · intro hm
    exact absurd F.ns.lt ((List.mem_singleton.mp hm) ▸ Nat.lt_irrefl _)
  · intro b hb
    rw [List.mem_singleton.mp hb]
    exact hnew
  · intro p hp hI
    exact absurd (Heap.lt_size (N p hp).1) ((List.mem_singleton.mp hI) ▸ Nat.lt_irrefl _)
  · rintro i v m₁ news₁ s₁ own ⟨hh', tk', rfl⟩ hin ⟨_, t, rfl⟩ hJ hoff hown hget hall hst F₁ N₁
    obtain ⟨io, hio⟩ : ∃ io, hh'.get? s.heap.objs.size = some io := ⟨_, hst⟩
    have hmem := hall s.heap.objs.size (List.mem_singleton.mpr rfl) hnew _ hio
    have e1 : a₀ + (i : Int) * 1 = a₀ + (i : Int) := by rw [Int.mul_one]
    rw [e1] at F₁
    have N₂ : News h₀ env.locals hh' ((s.heap.objs.size, io) :: news₁) := fun p hp => by
      rcases List.mem_cons.mp hp with rfl | hp
      · exact N₁ _ (List.mem_append_left _ hmem)
      · exact N₁ _ (List.mem_append_right _ hp)
    refine wpAny_mono (turn i t m₁ news₁ hh' tk' s.heap.objs.size io hin hJ (fun p hp e => hoff p hp (List.mem_singleton.mpr e)) (fun p hp => Heap.lt_size (N p hp).1) F₁ N₂) (fun f s₂ p => ?_) fun _ _ e => e
    have fin : (∃ h' tk m' news', s₂ = { s with heap := h', toks := tk } ∧ Fr h₀ env.locals h' m' ∧ News h₀ env.locals h' ([(s.heap.objs.size, io)] ++ news') ∧ (∀ p ∈ news', p.1 ≠ s.heap.objs.size) ∧ J (i + 1) m' news') →
        LoopStepU h₀ env.locals [s.heap.objs.size] own (J (i + 1)) { s with heap := hh', toks := tk' } .next s₂ := by
      rintro ⟨h', tk, m', news', rfl, F', N', hn, hj'⟩
      refine ⟨rfl, h', tk, m', news', rfl, F', fun p hp => ?_, fun p hp hI => hn p hp (List.mem_singleton.mp hI), hj'⟩
      rcases List.mem_append.mp hp with hp | hp
      · have e := List.mem_singleton.mp (hown p hp)
        have h2 : hh'.get? p.1 = some p.2 := hget p hp
        have : p = (s.heap.objs.size, io) := by
          rw [e, hio] at h2
          exact Prod.ext e (Option.some.inj h2).symm
        rw [this]; exact N' _ (.head _)
      · exact N' _ (.tail _ hp)
    cases f with
    | ret v => exact .ret p
    | brk => exact .brk p
    | next => exact .next (fin p)
    | cont => exact .cont (fin p)
  · rintro h' tk m' news' F' N' _ hJ
    exact done m' news' h' tk hJ F' N'
end
end
section
open PySem.Sre
noncomputable def qcode : Array Nat := #[14, 8, 1, 2, 4294967295, 1, 1, 34, 0, 16, 34, 28, 22, 0, 4294967295, 7, 11, 13, 7, 21, 16, 34, 16, 92, 0, 15, 8, 6, 16, 92, 2, 15, 2, 0, 1, 16, 34, 1]
theorem op0 : ops[0]? = some .FAILURE := rfl
theorem op1 : ops[1]? = some .SUCCESS := rfl
theorem op2 : ops[2]? = some .ANY := rfl
theorem op7 : ops[7]? = some .BRANCH := rfl
theorem op13 : ops[13]? = some .IN := rfl
theorem op15 : ops[15]? = some .JUMP := rfl
theorem op16 : ops[16]? = some .LITERAL := rfl
theorem op21 : ops[21]? = some .NEGATE := rfl
theorem op28 : ops[28]? = some .POSSESSIVE_REPEAT := rfl
/-- the machine at a start -/
noncomputable def atStart (text : Array Nat) (lim s : Nat) (ad first : Bool) (sn : Sre.Seen) : M :=
  { code := qcode, text, lim, start := s, lastStart := lim, mustAdvance := ad, pc := 9, pos := s, handed := s, outermost := first, marks := #[], frames := [{ wait := .nextStart, pc := 9, pos := s, outermost := first }], weight := 1, seen := sn }
theorem search_starts (text : Array Nat) (pos : Nat) (must : Bool) (h : pos + 2 ≤ text.size) :
    forSearch qcode text 0 pos text.size must = atStart text text.size pos must true (({} : Sre.Seen).add 14) := by
  have h1 : ¬ (pos > text.size ∨ text.size - pos < 2) := by lia
  unfold forSearch
  show (if (decide (pos > text.size) || decide (text.size - pos < 2)) = true then _ else _) = _
  rw [if_neg (by simpa using h1)]
  rfl
theorem search_short (text : Array Nat) (pos : Nat) (must : Bool) (h : text.size < pos + 2) :
    (M.runFor 4 (forSearch qcode text 0 pos text.size must)).outcome = some .failed := by
  unfold forSearch
  show (M.runFor 4 (if (decide (pos > text.size) || decide (text.size - pos < 2)) = true then _ else _)).outcome = some .failed
  rw [if_pos (by simp; exact Or.elim (Nat.le_total (text.size) (pos)) (fun q0 => Or.inr (Nat.not_le.mp (fun u9 => lin [_] [] (.l 1 (.c 2) (.v 0) (.e 1 (.v 0) (.c 0) .n)) (by kernel_rfl) u9 (Nat.sub_eq_zero_of_le (Nat.not_lt.mp (fun u9 => lin [_, _] [] (.l 1 (.a (.v 1) (.c 1)) (.v 0) (.l 1 (.v 0) (.v 1) .n)) (by kernel_rfl) u9 q0)))))) (fun q0 => Or.inr (Nat.not_le.mp (fun u9 => lin [_, _, _] [] (.l 1 (.c 2) (.v 2) (.l 1 (.a (.v 0) (.c 1)) (.a (.v 1) (.c 2)) (.e 1 (.a (.v 2) (.v 1)) (.v 0) .n))) (by kernel_rfl) u9 h (Nat.sub_add_cancel (Nat.not_lt.mp (fun u9 => lin [_, _] [] (.l 1 (.a (.v 0) (.c 1)) (.v 1) (.l 1 (.v 1) (.v 0) .n)) (by kernel_rfl) u9 q0)))))))]
  rfl
/-- the machine ahead of an element of the string that began at s -/
noncomputable def inLoop (text : Array Nat) (lim s : Nat) (ad first : Bool) (p : Nat) (count : Int) (sn : Sre.Seen) : M :=
  { code := qcode, text, lim, start := s, lastStart := lim, mustAdvance := ad, pc := 15, pos := p, handed := p, outermost := false, marks := #[], loops := #[{ pc := 0, outer := none }], inner := some 0,
    frames := [{ wait := .possMore, pc := 11, pos := p, outermost := first, count, kept := { whole := true } }, { wait := .nextStart, pc := 9, pos := s, outermost := first }], weight := 2, seen := sn }
theorem qc0 : qcode.getD 0 0 = 14 := rfl
theorem qc1 : qcode.getD 1 0 = 8 := rfl
theorem qc2 : qcode.getD 2 0 = 1 := rfl
theorem qc3 : qcode.getD 3 0 = 2 := rfl
theorem qc4 : qcode.getD 4 0 = 4294967295 := rfl
theorem qc5 : qcode.getD 5 0 = 1 := rfl
theorem qc6 : qcode.getD 6 0 = 1 := rfl
theorem qc7 : qcode.getD 7 0 = 34 := rfl
theorem qc8 : qcode.getD 8 0 = 0 := rfl
theorem qc9 : qcode.getD 9 0 = 16 := rfl
theorem qc10 : qcode.getD 10 0 = 34 := rfl
theorem qc11 : qcode.getD 11 0 = 28 := rfl
theorem qc12 : qcode.getD 12 0 = 22 := rfl
theorem qc13 : qcode.getD 13 0 = 0 := rfl
theorem qc14 : qcode.getD 14 0 = 4294967295 := rfl
theorem qc15 : qcode.getD 15 0 = 7 := rfl
theorem qc16 : qcode.getD 16 0 = 11 := rfl
theorem qc17 : qcode.getD 17 0 = 13 := rfl
theorem qc18 : qcode.getD 18 0 = 7 := rfl
theorem qc19 : qcode.getD 19 0 = 21 := rfl
theorem qc20 : qcode.getD 20 0 = 16 := rfl
theorem qc21 : qcode.getD 21 0 = 34 := rfl
theorem qc22 : qcode.getD 22 0 = 16 := rfl
theorem qc23 : qcode.getD 23 0 = 92 := rfl
theorem qc24 : qcode.getD 24 0 = 0 := rfl
theorem qc25 : qcode.getD 25 0 = 15 := rfl
theorem qc26 : qcode.getD 26 0 = 8 := rfl
theorem qc27 : qcode.getD 27 0 = 6 := rfl
theorem qc28 : qcode.getD 28 0 = 16 := rfl
theorem qc29 : qcode.getD 29 0 = 92 := rfl
theorem qc30 : qcode.getD 30 0 = 2 := rfl
theorem qc31 : qcode.getD 31 0 = 15 := rfl
theorem qc32 : qcode.getD 32 0 = 2 := rfl
theorem qc33 : qcode.getD 33 0 = 0 := rfl
theorem qc34 : qcode.getD 34 0 = 1 := rfl
theorem qc35 : qcode.getD 35 0 = 16 := rfl
theorem qc36 : qcode.getD 36 0 = 34 := rfl
theorem qc37 : qcode.getD 37 0 = 1 := rfl

theorem qsz : qcode.size = 38 := rfl
section
variable {text : Array Nat} {lim s p : Nat} {ad first : Bool} {count : Int} {sn : Sre.Seen}
theorem q_no (h : s < lim) (hc : text.getD s 0 ≠ 34) : ∃ sn', M.runFor 2 (atStart text lim s ad first sn) = atStart text lim (s + 1) false false sn' := by
  refine ⟨sn.add 16, ?_⟩
  unfold atStart
  have hn : ¬ (s ≥ lim) := by exact fun u9 => lin [_, _] [] (.l 1 (.v 1) (.v 0) (.l 1 (.a (.v 0) (.c 1)) (.v 1) .n)) (by kernel_rfl) u9 h
  have hc' : (text.getD s 0 == 34) = false := by simpa using hc
  simp only [M.runFor, M.step, M.exec, M.word, M.say, accepts, qc9, qc10, qsz, op16, Option.isSome, hn, hc', if_false, if_true, Bool.false_eq_true, Nat.add_zero, Nat.zero_add, Nat.reduceLT, Nat.reduceAdd, M.resume, h]
  rfl
theorem q_end : ∃ m, M.runFor 3 (atStart text s s ad first sn) = m ∧ m.outcome = some .failed := by
  refine ⟨_, rfl, ?_⟩
  unfold atStart
  have hn : s ≥ s := Nat.le_refl _
  have h : ¬ (s < s) := by exact fun u9 => lin [_] [] (.l 1 (.a (.v 0) (.c 1)) (.v 0) .n) (by kernel_rfl) u9
  simp only [M.runFor, M.step, M.exec, M.word, M.say, accepts, qc9, qc10, qsz, op16, Option.isSome, hn, if_false, if_true, Bool.false_eq_true, Nat.add_zero, Nat.reduceLT, Nat.reduceAdd, M.resume, h]
theorem q_open (h : s < lim) (hc : text.getD s 0 = 34) : ∃ sn', M.runFor 2 (atStart text lim s ad first sn) = inLoop text lim s ad first (s + 1) 0 sn' := by
  refine ⟨(sn.add 16).add 28, ?_⟩
  unfold atStart inLoop
  have hn : ¬ (s ≥ lim) := by exact fun u9 => lin [_, _] [] (.l 1 (.v 1) (.v 0) (.l 1 (.a (.v 0) (.c 1)) (.v 1) .n)) (by kernel_rfl) u9 h
  simp only [M.runFor, M.step, M.exec, M.word, M.say, accepts, itemWidth, qc9, qc10, qc11, qc12, qc13, qc14, qsz, op16, op28, Option.isSome, hn, hc, if_false, if_true, Bool.false_eq_true, Nat.add_zero, Nat.reduceLT, Nat.reduceAdd, BEq.rfl]
  rfl
/-- what the class of plain characters sees -/
noncomputable def setSeen (c : Nat) (sn : Sre.Seen) : Sre.Seen :=
  if (c == 34) = true then (sn.add 21).add 16 else if (c == 92) = true then ((sn.add 21).add 16).add 16 else (((sn.add 21).add 16).add 16).add 0
theorem q_in (c : Nat) : inSet qcode c 38 19 true sn = (if (c == 34) = true then .ok (false, (sn.add 21).add 16) else if (c == 92) = true then .ok (false, ((sn.add 21).add 16).add 16) else .ok (true, (((sn.add 21).add 16).add 16).add 0)) := rfl
theorem q_set (c : Nat) : accepts qcode 17 c sn = .ok (decide (c ≠ 34 ∧ c ≠ 92), setSeen c sn) := by
  show inSet qcode c 38 19 true sn = _
  rw [q_in]
  unfold setSeen
  by_cases h1 : c = 34
  · subst h1; rfl
  · by_cases h2 : c = 92
    · subst h2; rfl
    · have e1 : (c == 34) = false := by simpa using h1
      have e2 : (c == 92) = false := by simpa using h2
      simp only [e1, e2, Bool.false_eq_true, if_false]
      simp [h1, h2]
noncomputable def fb (p alt : Nat) : Sre.Frame := { wait := .nextBranch, pc := alt, pos := p, outermost := false, kept := { whole := true } }
/-- within an element -/
noncomputable def mid (text : Array Nat) (lim s : Nat) (ad first : Bool) (p : Nat) (count : Int) (fr : List Sre.Frame) (wt pc pos handed : Nat) (ans : Option Bool) (sn : Sre.Seen) : M :=
  { inLoop text lim s ad first p count sn with frames := fr ++ (inLoop text lim s ad first p count sn).frames, pc, pos, handed, answer := ans, weight := wt }
theorem s01 : M.step (inLoop text lim s ad first p count sn) = mid text lim s ad first p count [fb p 16] 3 17 p p none (sn.add 7) := rfl
theorem s12 (h : p < lim) (h1 : text.getD p 0 ≠ 34) (h2 : text.getD p 0 ≠ 92) : M.step (mid text lim s ad first p count [fb p 16] 3 17 p p none sn) = mid text lim s ad first p count [fb p 16] 3 25 (p + 1) p none (setSeen (text.getD p 0) (sn.add 13)) := by
  have hn : ¬ (p ≥ lim) := by exact fun u9 => lin [_, _] [] (.l 1 (.v 1) (.v 0) (.l 1 (.a (.v 0) (.c 1)) (.v 1) .n)) (by kernel_rfl) u9 h
  have e : ∀ sn, accepts qcode 17 (text.getD p 0) sn = .ok (true, setSeen (text.getD p 0) sn) := fun sn => by rw [q_set, decide_eq_true ⟨h1, h2⟩]
  unfold mid inLoop
  simp only [e, hn, M.step, M.exec, M.word, M.say, itemWidth, qc15, qc16, qc17, qc18, qc25, qc26, qc28, qc29, qc30, qc34, qc35, qc36, qsz, op7, op13, op15, op16, op1, op2, Option.isSome, if_false, if_true, Bool.false_eq_true, Nat.add_zero, Nat.reduceLT, Nat.reduceAdd]
  try rfl
theorem s12' (h : p < lim) (h1 : text.getD p 0 = 34 ∨ text.getD p 0 = 92) : M.step (mid text lim s ad first p count [fb p 16] 3 17 p p none sn) = mid text lim s ad first p count [fb p 16] 3 17 p p (some false) (setSeen (text.getD p 0) (sn.add 13)) := by
  have hn : ¬ (p ≥ lim) := by exact fun u9 => lin [_, _] [] (.l 1 (.v 1) (.v 0) (.l 1 (.a (.v 0) (.c 1)) (.v 1) .n)) (by kernel_rfl) u9 h
  have e : ∀ sn, accepts qcode 17 (text.getD p 0) sn = .ok (false, setSeen (text.getD p 0) sn) := fun sn => by rw [q_set]; rcases h1 with h1 | h1 <;> simp [h1]
  unfold mid inLoop
  simp only [e, hn, M.step, M.exec, M.word, M.say, itemWidth, qc15, qc16, qc17, qc18, qc25, qc26, qc28, qc29, qc30, qc34, qc35, qc36, qsz, op7, op13, op15, op16, op1, op2, Option.isSome, if_false, if_true, Bool.false_eq_true, Nat.add_zero, Nat.reduceLT, Nat.reduceAdd]
  try rfl
theorem s23 : M.step (mid text lim s ad first p count [fb p 16] 3 25 (p + 1) p none sn) = mid text lim s ad first p count [fb p 16] 3 34 (p + 1) p none (sn.add 15) := rfl
theorem s34 : M.step (mid text lim s ad first p count [fb p 16] 3 34 (p + 1) p none sn) = mid text lim s ad first p count [fb p 16] 3 34 (p + 1) (p + 1) (some true) (sn.add 1) := rfl
theorem s45 : M.step (mid text lim s ad first p count [fb p 16] 3 34 (p + 1) (p + 1) (some true) sn) = mid text lim s ad first p count [] 2 16 p (p + 1) (some true) sn := rfl
theorem s56 (alt q : Nat) (hq : p < q) (hc : 0 ≤ count) : M.step (mid text lim s ad first p count [] 2 alt p q (some true) sn) = inLoop text lim s ad first q (count + 1) sn := by
  have h1 : ¬ (count + 1 < ((0 : Nat) : Int)) := by exact fun u9 => lin [] [_] (.L 1 (.a (.a (.v 0) (.i 1)) (.i 1)) (.z (.c 0)) (.L 1 (.i 0) (.v 0) .n)) (by kernel_rfl) u9 hc
  have h2 : ((some p : Option Nat) != some q) = true := by simp; exact fun u9 => lin [_, _] [] (.e (-1) (.v 0) (.v 1) (.l 1 (.a (.v 0) (.c 1)) (.v 1) .n)) (by kernel_rfl) u9 hq
  have h3 : ((decide (count + 1 < ((4294967295 : Nat) : Int)) || (4294967295 : Nat) == maxRepeat) && (some p : Option Nat) != some q) = true := by
    rw [h2, show ((4294967295 : Nat) == maxRepeat) = true from rfl, Bool.or_true]; rfl
  show (if count + 1 < ((0 : Nat) : Int) then _ else if ((decide (count + 1 < ((4294967295 : Nat) : Int)) || (4294967295 : Nat) == maxRepeat) && (some p : Option Nat) != some q) = true then _ else _) = _
  rw [if_neg h1, if_pos h3]
  rfl
theorem s23' : M.step (mid text lim s ad first p count [fb p 16] 3 17 p p (some false) sn) = mid text lim s ad first p count [fb p 27] 3 28 p p none sn := rfl
theorem s34' (h : p < lim) (h1 : text.getD p 0 = 92) : M.step (mid text lim s ad first p count [fb p 27] 3 28 p p none sn) = mid text lim s ad first p count [fb p 27] 3 30 (p + 1) p none (sn.add 16) := by
  have hn : ¬ (p ≥ lim) := by exact fun u9 => lin [_, _] [] (.l 1 (.v 1) (.v 0) (.l 1 (.a (.v 0) (.c 1)) (.v 1) .n)) (by kernel_rfl) u9 h
  unfold mid inLoop
  simp only [accepts, h1, hn, BEq.rfl, M.step, M.exec, M.word, M.say, itemWidth, qc15, qc16, qc17, qc18, qc25, qc26, qc28, qc29, qc30, qc34, qc35, qc36, qsz, op7, op13, op15, op16, op1, op2, Option.isSome, if_false, if_true, Bool.false_eq_true, Nat.add_zero, Nat.reduceLT, Nat.reduceAdd]
  try rfl
theorem s34'' (h : p < lim) (h1 : text.getD p 0 = 34) : M.step (mid text lim s ad first p count [fb p 27] 3 28 p p none sn) = mid text lim s ad first p count [fb p 27] 3 28 p p (some false) (sn.add 16) := by
  have hn : ¬ (p ≥ lim) := by exact fun u9 => lin [_, _] [] (.l 1 (.v 1) (.v 0) (.l 1 (.a (.v 0) (.c 1)) (.v 1) .n)) (by kernel_rfl) u9 h
  have h2 : ((34 : Nat) == 92) = false := rfl
  unfold mid inLoop
  simp only [accepts, h1, hn, h2, M.step, M.exec, M.word, M.say, itemWidth, qc15, qc16, qc17, qc18, qc25, qc26, qc28, qc29, qc30, qc34, qc35, qc36, qsz, op7, op13, op15, op16, op1, op2, Option.isSome, if_false, if_true, Bool.false_eq_true, Nat.add_zero, Nat.reduceLT, Nat.reduceAdd]
  try rfl
theorem s45' (h : p + 1 < lim) (h1 : text.getD (p + 1) 0 ≠ 10) : M.step (mid text lim s ad first p count [fb p 27] 3 30 (p + 1) p none sn) = mid text lim s ad first p count [fb p 27] 3 31 (p + 2) p none (sn.add 2) := by
  have hn : ¬ (p + 1 ≥ lim) := by exact fun u9 => lin [_, _] [] (.l 1 (.v 1) (.a (.v 0) (.c 1)) (.l 1 (.a (.a (.v 0) (.c 1)) (.c 1)) (.v 1) .n)) (by kernel_rfl) u9 h
  have h2 : ((text.getD (p + 1) 0) != 10) = true := by simpa using h1
  unfold mid inLoop
  simp only [accepts, h2, hn, M.step, M.exec, M.word, M.say, itemWidth, qc15, qc16, qc17, qc18, qc25, qc26, qc28, qc29, qc30, qc34, qc35, qc36, qsz, op7, op13, op15, op16, op1, op2, Option.isSome, if_false, if_true, Bool.false_eq_true, Nat.add_zero, Nat.reduceLT, Nat.reduceAdd]
  try rfl
theorem s56' : M.step (mid text lim s ad first p count [fb p 27] 3 31 (p + 2) p none sn) = mid text lim s ad first p count [fb p 27] 3 34 (p + 2) p none (sn.add 15) := rfl
theorem s67' : M.step (mid text lim s ad first p count [fb p 27] 3 34 (p + 2) p none sn) = mid text lim s ad first p count [fb p 27] 3 34 (p + 2) (p + 2) (some true) (sn.add 1) := rfl
theorem s78' : M.step (mid text lim s ad first p count [fb p 27] 3 34 (p + 2) (p + 2) (some true) sn) = mid text lim s ad first p count [] 2 27 p (p + 2) (some true) sn := rfl
theorem s45'' : M.step (mid text lim s ad first p count [fb p 27] 3 28 p p (some false) sn) = mid text lim s ad first p count [] 2 27 p p (some false) sn := rfl
/-- behind the last element -/
noncomputable def out (text : Array Nat) (lim s : Nat) (ad first : Bool) (pc pos handed : Nat) (ans : Option Bool) (sn : Sre.Seen) : M :=
  { code := qcode, text, lim, start := s, lastStart := lim, mustAdvance := ad, pc, pos, handed, outermost := first, marks := #[], frames := [{ wait := .nextStart, pc := 9, pos := s, outermost := first }], weight := 1, answer := ans, seen := sn }
theorem s56'' (hc : 0 ≤ count) : M.step (mid text lim s ad first p count [] 2 27 p p (some false) sn) = out text lim s ad first 35 p p none sn := by
  have h1 : ¬ (count < ((0 : Nat) : Int)) := by exact fun u9 => lin [] [_] (.L 1 (.a (.v 0) (.i 1)) (.z (.c 0)) (.L 1 (.i 0) (.v 0) .n)) (by kernel_rfl) u9 hc
  have h3 : ¬ ((decide (count < ((4294967295 : Nat) : Int)) || (4294967295 : Nat) == maxRepeat) && (some p : Option Nat) != some p) = true := by simp
  show (if count < ((0 : Nat) : Int) then _ else if ((decide (count < ((4294967295 : Nat) : Int)) || (4294967295 : Nat) == maxRepeat) && (some p : Option Nat) != some p) = true then _ else _) = _
  rw [if_neg h1, if_neg h3]
  rfl
theorem s67'' (h : p < lim) (h1 : text.getD p 0 = 34) : M.step (out text lim s ad first 35 p p none sn) = out text lim s ad first 37 (p + 1) p none (sn.add 16) := by
  have hn : ¬ (p ≥ lim) := by exact fun u9 => lin [_, _] [] (.l 1 (.v 1) (.v 0) (.l 1 (.a (.v 0) (.c 1)) (.v 1) .n)) (by kernel_rfl) u9 h
  unfold out
  simp only [accepts, h1, hn, BEq.rfl, M.step, M.exec, M.word, M.say, itemWidth, qc15, qc16, qc17, qc18, qc25, qc26, qc28, qc29, qc30, qc34, qc35, qc36, qsz, op7, op13, op15, op16, op1, op2, Option.isSome, if_false, if_true, Bool.false_eq_true, Nat.add_zero, Nat.reduceLT, Nat.reduceAdd]
  try rfl
theorem s78'' (h : s < p) : M.step (out text lim s ad first 37 (p + 1) p none sn) = out text lim s ad first 37 (p + 1) (p + 1) (some true) (sn.add 1) := by
  have h1 : (p + 1 == s) = false := by simp; exact fun u9 => lin [_, _] [] (.e 1 (.a (.v 1) (.c 1)) (.v 0) (.l 1 (.a (.v 0) (.c 1)) (.v 1) .n)) (by kernel_rfl) u9 h
  show (if (first && ((false && _) || (ad && p + 1 == s))) = true then _ else _) = _
  rw [h1, Bool.and_false, Bool.false_and, Bool.or_false, Bool.and_false, if_neg Bool.false_ne_true]
  rfl
/-- found -/
noncomputable def hit (text : Array Nat) (lim s : Nat) (ad first : Bool) (e : Nat) (oc : Option Sre.Outcome) (sn : Sre.Seen) : M :=
  { code := qcode, text, lim, start := s, lastStart := lim, mustAdvance := ad, pc := 9, pos := s, handed := e, outermost := first, marks := #[], answer := some true, seen := sn, outcome := oc }
theorem s89'' : M.step (out text lim s ad first 37 (p + 1) (p + 1) (some true) sn) = hit text lim s ad first (p + 1) none sn := rfl
theorem s90'' : M.step (hit text lim s ad first (p + 1) none sn) = hit text lim s ad first (p + 1) (some .matched) sn := rfl
theorem run_stop (n : Nat) (m : M) (h : m.outcome.isSome = true) : M.runFor n m = m := by
  cases n with
  | zero => rfl
  | succ n => show (if _ then _ else _) = _; rw [if_pos h]
theorem run_add (a b : Nat) (m : M) : M.runFor (a + b) m = M.runFor b (M.runFor a m) := by
  induction a generalizing m with
  | zero => rw [Nat.zero_add]; rfl
  | succ a ih =>
    rw [Nat.succ_add]
    show (if m.outcome.isSome = true then m else M.runFor (a + b) m.step) = M.runFor b (if m.outcome.isSome = true then m else M.runFor a m.step)
    by_cases h : m.outcome.isSome = true
    · rw [if_pos h, if_pos h, run_stop _ _ h]
    · rw [if_neg h, if_neg h, ih]
theorem run_step {m : M} (h : m.outcome = none) (n : Nat) : M.runFor (n + 1) m = M.runFor n m.step := by
  show (if m.outcome.isSome = true then m else M.runFor n m.step) = _
  rw [h]; rfl
theorem q_plain (h : p < lim) (hc : 0 ≤ count) (h1 : text.getD p 0 ≠ 34) (h2 : text.getD p 0 ≠ 92) : ∃ sn', M.runFor 6 (inLoop text lim s ad first p count sn) = inLoop text lim s ad first (p + 1) (count + 1) sn' := by
  refine ⟨?w, ?_⟩
  rotate_left
  rw [run_step rfl, s01, run_step rfl, s12 h h1 h2, run_step rfl, s23, run_step rfl, s34, run_step rfl, s45, run_step rfl, s56 _ _ (Nat.lt_succ_self _) hc]
  rfl
theorem q_esc (h : p + 1 < lim) (hc : 0 ≤ count) (h1 : text.getD p 0 = 92) (h2 : text.getD (p + 1) 0 ≠ 10) : ∃ sn', M.runFor 9 (inLoop text lim s ad first p count sn) = inLoop text lim s ad first (p + 2) (count + 1) sn' := by
  refine ⟨?w, ?_⟩
  rotate_left
  rw [run_step rfl, s01, run_step rfl, s12' (by exact Nat.not_le.mp (fun u9 => lin [_, _] [] (.l 1 (.v 1) (.v 0) (.l 1 (.a (.a (.v 0) (.c 1)) (.c 1)) (.v 1) .n)) (by kernel_rfl) u9 h)) (.inr h1), run_step rfl, s23', run_step rfl, s34' (by exact Nat.not_le.mp (fun u9 => lin [_, _] [] (.l 1 (.v 1) (.v 0) (.l 1 (.a (.a (.v 0) (.c 1)) (.c 1)) (.v 1) .n)) (by kernel_rfl) u9 h)) h1, run_step rfl, s45' h h2, run_step rfl, s56', run_step rfl, s67', run_step rfl, s78', run_step rfl, s56 _ _ (by exact Nat.not_le.mp (fun u9 => lin [_] [] (.l 1 (.a (.v 0) (.c 2)) (.v 0) .n) (by kernel_rfl) u9)) hc]
  rfl
theorem q_shut (h : p < lim) (hc : 0 ≤ count) (hs : s < p) (h1 : text.getD p 0 = 34) : ∃ sn', M.runFor 10 (inLoop text lim s ad first p count sn) = hit text lim s ad first (p + 1) (some .matched) sn' := by
  refine ⟨?w, ?_⟩
  rotate_left
  rw [run_step rfl, s01, run_step rfl, s12' (by exact Nat.not_le.mp (fun u9 => lin [_, _] [] (.l 1 (.v 1) (.v 0) (.l 1 (.a (.v 0) (.c 1)) (.v 1) .n)) (by kernel_rfl) u9 h)) (.inl h1), run_step rfl, s23', run_step rfl, s34'' (by exact Nat.not_le.mp (fun u9 => lin [_, _] [] (.l 1 (.v 1) (.v 0) (.l 1 (.a (.v 0) (.c 1)) (.v 1) .n)) (by kernel_rfl) u9 h)) h1, run_step rfl, s45'', run_step rfl, s56'' hc, run_step rfl, s67'' h h1, run_step rfl, s78'' hs, run_step rfl, s89'', run_step rfl, s90'']
  rfl
end
end
section
open PySem.Sre
/-- a piece of the line -/
inductive Pce where
  | op
  | cl
  | lab (i : Fin 6)
noncomputable def labB : Fin 6 → List UInt8
  | 0 => [34, 40, 34]
  | 1 => [34, 41, 34]
  | 2 => [34, 97, 34]
  | 3 => [34, 40, 40, 34]
  | 4 => [34, 92, 34, 40, 34]
  | 5 => [34, 92, 92, 41, 34]
noncomputable def pB : Pce → List UInt8
  | .op => [40]
  | .cl => [41]
  | .lab i => labB i
noncomputable def isLab : Pce → Bool
  | .lab _ => true
  | _ => false
noncomputable def bB (ps : List Pce) : List UInt8 := ps.flatMap pB
noncomputable def brk (ps : List Pce) : List Pce := ps.filter fun p => !isLab p
theorem bB_app (a b : List Pce) : bB (a ++ b) = bB a ++ bB b := List.flatMap_append
theorem brk_app (a b : List Pce) : brk (a ++ b) = brk a ++ brk b := List.filter_append ..
noncomputable def tx (ps : List Pce) : List Nat := (bB ps).map (·.toNat)
theorem tx_app (a b : List Pce) : tx (a ++ b) = tx a ++ tx b := by unfold tx; rw [bB_app, List.map_append]
theorem getD_at (pre suf : List Nat) (j : Nat) : (pre ++ suf).toArray.getD (pre.length + j) 0 = suf.getD j 0 := by
  simp only [Array.getD_eq_getD_getElem?, List.getElem?_toArray, List.getD_eq_getElem?_getD]
  rw [List.getElem?_append_right (by exact Nat.not_lt.mp (fun u9 => lin [_, _] [] (.l 1 (.a (.a (.v 0) (.v 1)) (.c 1)) (.v 0) .n) (by kernel_rfl) u9))]
  congr 2
  exact linn [_, _, _] [] (.v 0) (.v 1) (.e (-1) (.a (.v 0) (.v 2)) (.a (.v 2) (.v 1)) .n) (by kernel_rfl) (Nat.sub_add_cancel (Nat.not_lt.mp (fun u9 => lin [_, _] [] (.l 1 (.a (.a (.v 0) (.v 1)) (.c 1)) (.v 0) .n) (by kernel_rfl) u9)))
theorem nn {x c d : Nat} (h : x = c) (hc : c ≠ d) : x ≠ d := h ▸ hc
theorem bs_len {bs : List Pce} (h : ∀ b ∈ bs, isLab b = false) : (tx bs).length = bs.length := by
  induction bs with
  | nil => rfl
  | cons b bs ih =>
    have e : tx (b :: bs) = tx [b] ++ tx bs := tx_app [b] bs
    rw [e, List.length_append, ih fun x hx => h x (.tail _ hx), List.length_cons]
    have := h b (.head _)
    cases b with
    | op => show 1 + _ = _; exact linn [_] [] (.a (.c 1) (.v 0)) (.a (.v 0) (.c 1)) .n (by kernel_rfl)
    | cl => show 1 + _ = _; exact linn [_] [] (.a (.c 1) (.v 0)) (.a (.v 0) (.c 1)) .n (by kernel_rfl)
    | lab i => cases this
section
variable {lim s p : Nat} {ad first : Bool} {count : Int} {sn : Sre.Seen}
theorem step_open {text : Array Nat} (h : s < lim) (hc : text.getD s 0 = 34) {N : Nat} {m : M} (k : ∀ sn', ∃ N sn₂, N ≤ 50 ∧ M.runFor N (inLoop text lim s ad first (s + 1) 0 sn') = hit text lim s ad first p (some .matched) sn₂) :
    ∃ N sn₂, N ≤ 60 ∧ M.runFor N (atStart text lim s ad first sn) = hit text lim s ad first p (some .matched) sn₂ := by
  obtain ⟨sn', e⟩ := q_open (text := text) (lim := lim) (s := s) (ad := ad) (first := first) (sn := sn) h hc
  obtain ⟨N, sn₂, hN, e2⟩ := k sn'
  exact ⟨2 + N, sn₂, by exact Nat.not_lt.mp (fun u9 => lin [_] [] (.l 1 (.a (.c 60) (.c 1)) (.a (.c 2) (.v 0)) (.l 1 (.v 0) (.c 50) .n)) (by kernel_rfl) u9 hN), by rw [run_add, e, e2]⟩
/-- what is left of a string: an element or the end -/
theorem go_plain {text : Array Nat} {e k : Nat} (h : p < lim) (hc : 0 ≤ count) (h1 : text.getD p 0 ≠ 34) (h2 : text.getD p 0 ≠ 92)
    (g : ∀ sn', ∃ N sn₂, N ≤ k ∧ M.runFor N (inLoop text lim s ad first (p + 1) (count + 1) sn') = hit text lim s ad first e (some .matched) sn₂) :
    ∃ N sn₂, N ≤ k + 6 ∧ M.runFor N (inLoop text lim s ad first p count sn) = hit text lim s ad first e (some .matched) sn₂ := by
  obtain ⟨sn', e1⟩ := q_plain (text := text) (lim := lim) (s := s) (ad := ad) (first := first) (sn := sn) h hc h1 h2
  obtain ⟨N, sn₂, hN, e2⟩ := g sn'
  exact ⟨6 + N, sn₂, by exact Nat.not_lt.mp (fun u9 => lin [_, _] [] (.l 1 (.a (.a (.v 1) (.c 6)) (.c 1)) (.a (.c 6) (.v 0)) (.l 1 (.v 0) (.v 1) .n)) (by kernel_rfl) u9 hN), by rw [run_add, e1, e2]⟩
theorem go_esc {text : Array Nat} {e k : Nat} (h : p + 1 < lim) (hc : 0 ≤ count) (h1 : text.getD p 0 = 92) (h2 : text.getD (p + 1) 0 ≠ 10)
    (g : ∀ sn', ∃ N sn₂, N ≤ k ∧ M.runFor N (inLoop text lim s ad first (p + 2) (count + 1) sn') = hit text lim s ad first e (some .matched) sn₂) :
    ∃ N sn₂, N ≤ k + 9 ∧ M.runFor N (inLoop text lim s ad first p count sn) = hit text lim s ad first e (some .matched) sn₂ := by
  obtain ⟨sn', e1⟩ := q_esc (text := text) (lim := lim) (s := s) (ad := ad) (first := first) (sn := sn) h hc h1 h2
  obtain ⟨N, sn₂, hN, e2⟩ := g sn'
  exact ⟨9 + N, sn₂, by exact Nat.not_lt.mp (fun u9 => lin [_, _] [] (.l 1 (.a (.a (.v 1) (.c 9)) (.c 1)) (.a (.c 9) (.v 0)) (.l 1 (.v 0) (.v 1) .n)) (by kernel_rfl) u9 hN), by rw [run_add, e1, e2]⟩
theorem go_shut {text : Array Nat} (h : p < lim) (hc : 0 ≤ count) (hs : s < p) (h1 : text.getD p 0 = 34) :
    ∃ N sn₂, N ≤ 10 ∧ M.runFor N (inLoop text lim s ad first p count sn) = hit text lim s ad first (p + 1) (some .matched) sn₂ := by
  obtain ⟨sn', e1⟩ := q_shut (text := text) (lim := lim) (s := s) (ad := ad) (first := first) (sn := sn) h hc hs h1
  exact ⟨10, sn', Nat.le_refl _, e1⟩
end
theorem fin6 {P : Fin 6 → Prop} (h0 : P 0) (h1 : P 1) (h2 : P 2) (h3 : P 3) (h4 : P 4) (h5 : P 5) : ∀ i, P i
  | 0 => h0
  | 1 => h1
  | 2 => h2
  | 3 => h3
  | 4 => h4
  | 5 => h5
theorem find_at (pre rest : List Nat) (i : Fin 6) (ad first : Bool) (sn : Sre.Seen) :
    ∃ N sn₂, N ≤ 60 ∧ M.runFor N (atStart (pre ++ (tx [.lab i] ++ rest)).toArray (pre ++ (tx [.lab i] ++ rest)).toArray.size pre.length ad first sn) =
      hit (pre ++ (tx [.lab i] ++ rest)).toArray (pre ++ (tx [.lab i] ++ rest)).toArray.size pre.length ad first (pre.length + (labB i).length) (some .matched) sn₂ := by
  have g : ∀ j, (pre ++ (tx [.lab i] ++ rest)).toArray.getD (pre.length + j) 0 = (tx [.lab i] ++ rest).getD j 0 := getD_at pre _
  have hsz : (pre ++ (tx [.lab i] ++ rest)).toArray.size = pre.length + ((tx [.lab i]).length + rest.length) := by simp
  generalize (pre ++ (tx [.lab i] ++ rest)).toArray = text at g hsz
  generalize text.size = lim at hsz
  revert g hsz
  revert i
  refine fin6 ?_ ?_ ?_ ?_ ?_ ?_
  · intro g hsz
    have hl : lim = pre.length + (3 + rest.length) := hsz
    refine step_open (N := 0) (m := inLoop text lim 0 ad first 0 0 sn) (by exact Nat.not_le.mp (fun u9 => lin [_, _, _] [] (.l 1 (.v 0) (.v 1) (.e (-1) (.v 0) (.a (.v 1) (.a (.c 3) (.v 2))) .n)) (by kernel_rfl) u9 hl)) ((g 0).trans rfl) fun sn' => ?_
    obtain ⟨N, sn₂, hN, e⟩ := go_plain (text := text) (lim := lim) (s := pre.length) (ad := ad) (first := first) (sn := sn') (p := pre.length + 1) (count := 0) (e := pre.length + 3) (k := 10) (by exact Nat.not_le.mp (fun u9 => lin [_, _, _] [] (.l 1 (.v 0) (.a (.v 1) (.c 1)) (.e (-1) (.v 0) (.a (.v 1) (.a (.c 3) (.v 2))) .n)) (by kernel_rfl) u9 hl)) (by exact Int.not_lt.mp (fun u9 => lin [] [] (.L 1 (.a (.i 0) (.i 1)) (.i 0) .n) (by kernel_rfl) u9)) (nn (c := 40) ((g 1).trans rfl) (by decide)) (nn (c := 40) ((g 1).trans rfl) (by decide)) fun sn' =>
      go_shut (by exact Nat.not_le.mp (fun u9 => lin [_, _, _] [] (.l 1 (.v 0) (.a (.a (.v 1) (.c 1)) (.c 1)) (.e (-1) (.v 0) (.a (.v 1) (.a (.c 3) (.v 2))) .n)) (by kernel_rfl) u9 hl)) (by exact Int.not_lt.mp (fun u9 => lin [] [] (.L 1 (.a (.i (0 + 1)) (.i 1)) (.i 0) .n) (by kernel_rfl) u9)) (by exact Nat.not_le.mp (fun u9 => lin [_] [] (.l 1 (.a (.a (.v 0) (.c 1)) (.c 1)) (.v 0) .n) (by kernel_rfl) u9)) ((g 2).trans rfl)
    exact ⟨N, sn₂, by exact Nat.not_lt.mp (fun u9 => lin [_] [] (.l 1 (.a (.c 50) (.c 1)) (.v 0) (.l 1 (.v 0) (.c (10 + 6)) .n)) (by kernel_rfl) u9 hN), e⟩
  · intro g hsz
    have hl : lim = pre.length + (3 + rest.length) := hsz
    refine step_open (N := 0) (m := inLoop text lim 0 ad first 0 0 sn) (by exact Nat.not_le.mp (fun u9 => lin [_, _, _] [] (.l 1 (.v 0) (.v 1) (.e (-1) (.v 0) (.a (.v 1) (.a (.c 3) (.v 2))) .n)) (by kernel_rfl) u9 hl)) ((g 0).trans rfl) fun sn' => ?_
    obtain ⟨N, sn₂, hN, e⟩ := go_plain (text := text) (lim := lim) (s := pre.length) (ad := ad) (first := first) (sn := sn') (p := pre.length + 1) (count := 0) (e := pre.length + 3) (k := 10) (by exact Nat.not_le.mp (fun u9 => lin [_, _, _] [] (.l 1 (.v 0) (.a (.v 1) (.c 1)) (.e (-1) (.v 0) (.a (.v 1) (.a (.c 3) (.v 2))) .n)) (by kernel_rfl) u9 hl)) (by exact Int.not_lt.mp (fun u9 => lin [] [] (.L 1 (.a (.i 0) (.i 1)) (.i 0) .n) (by kernel_rfl) u9)) (nn (c := 41) ((g 1).trans rfl) (by decide)) (nn (c := 41) ((g 1).trans rfl) (by decide)) fun sn' =>
      go_shut (by exact Nat.not_le.mp (fun u9 => lin [_, _, _] [] (.l 1 (.v 0) (.a (.a (.v 1) (.c 1)) (.c 1)) (.e (-1) (.v 0) (.a (.v 1) (.a (.c 3) (.v 2))) .n)) (by kernel_rfl) u9 hl)) (by exact Int.not_lt.mp (fun u9 => lin [] [] (.L 1 (.a (.i (0 + 1)) (.i 1)) (.i 0) .n) (by kernel_rfl) u9)) (by exact Nat.not_le.mp (fun u9 => lin [_] [] (.l 1 (.a (.a (.v 0) (.c 1)) (.c 1)) (.v 0) .n) (by kernel_rfl) u9)) ((g 2).trans rfl)
    exact ⟨N, sn₂, by exact Nat.not_lt.mp (fun u9 => lin [_] [] (.l 1 (.a (.c 50) (.c 1)) (.v 0) (.l 1 (.v 0) (.c (10 + 6)) .n)) (by kernel_rfl) u9 hN), e⟩
  · intro g hsz
    have hl : lim = pre.length + (3 + rest.length) := hsz
    refine step_open (N := 0) (m := inLoop text lim 0 ad first 0 0 sn) (by exact Nat.not_le.mp (fun u9 => lin [_, _, _] [] (.l 1 (.v 0) (.v 1) (.e (-1) (.v 0) (.a (.v 1) (.a (.c 3) (.v 2))) .n)) (by kernel_rfl) u9 hl)) ((g 0).trans rfl) fun sn' => ?_
    obtain ⟨N, sn₂, hN, e⟩ := go_plain (text := text) (lim := lim) (s := pre.length) (ad := ad) (first := first) (sn := sn') (p := pre.length + 1) (count := 0) (e := pre.length + 3) (k := 10) (by exact Nat.not_le.mp (fun u9 => lin [_, _, _] [] (.l 1 (.v 0) (.a (.v 1) (.c 1)) (.e (-1) (.v 0) (.a (.v 1) (.a (.c 3) (.v 2))) .n)) (by kernel_rfl) u9 hl)) (by exact Int.not_lt.mp (fun u9 => lin [] [] (.L 1 (.a (.i 0) (.i 1)) (.i 0) .n) (by kernel_rfl) u9)) (nn (c := 97) ((g 1).trans rfl) (by decide)) (nn (c := 97) ((g 1).trans rfl) (by decide)) fun sn' =>
      go_shut (by exact Nat.not_le.mp (fun u9 => lin [_, _, _] [] (.l 1 (.v 0) (.a (.a (.v 1) (.c 1)) (.c 1)) (.e (-1) (.v 0) (.a (.v 1) (.a (.c 3) (.v 2))) .n)) (by kernel_rfl) u9 hl)) (by exact Int.not_lt.mp (fun u9 => lin [] [] (.L 1 (.a (.i (0 + 1)) (.i 1)) (.i 0) .n) (by kernel_rfl) u9)) (by exact Nat.not_le.mp (fun u9 => lin [_] [] (.l 1 (.a (.a (.v 0) (.c 1)) (.c 1)) (.v 0) .n) (by kernel_rfl) u9)) ((g 2).trans rfl)
    exact ⟨N, sn₂, by exact Nat.not_lt.mp (fun u9 => lin [_] [] (.l 1 (.a (.c 50) (.c 1)) (.v 0) (.l 1 (.v 0) (.c (10 + 6)) .n)) (by kernel_rfl) u9 hN), e⟩
  · intro g hsz
    have hl : lim = pre.length + (4 + rest.length) := hsz
    refine step_open (N := 0) (m := inLoop text lim 0 ad first 0 0 sn) (by exact Nat.not_le.mp (fun u9 => lin [_, _, _] [] (.l 1 (.v 0) (.v 1) (.e (-1) (.v 0) (.a (.v 1) (.a (.c 4) (.v 2))) .n)) (by kernel_rfl) u9 hl)) ((g 0).trans rfl) fun sn' => ?_
    obtain ⟨N, sn₂, hN, e⟩ := go_plain (text := text) (lim := lim) (s := pre.length) (ad := ad) (first := first) (sn := sn') (p := pre.length + 1) (count := 0) (e := pre.length + 4) (k := 16) (by exact Nat.not_le.mp (fun u9 => lin [_, _, _] [] (.l 1 (.v 0) (.a (.v 1) (.c 1)) (.e (-1) (.v 0) (.a (.v 1) (.a (.c 4) (.v 2))) .n)) (by kernel_rfl) u9 hl)) (by exact Int.not_lt.mp (fun u9 => lin [] [] (.L 1 (.a (.i 0) (.i 1)) (.i 0) .n) (by kernel_rfl) u9)) (nn (c := 40) ((g 1).trans rfl) (by decide)) (nn (c := 40) ((g 1).trans rfl) (by decide)) fun sn' =>
      go_plain (by exact Nat.not_le.mp (fun u9 => lin [_, _, _] [] (.l 1 (.v 0) (.a (.a (.v 1) (.c 1)) (.c 1)) (.e (-1) (.v 0) (.a (.v 1) (.a (.c 4) (.v 2))) .n)) (by kernel_rfl) u9 hl)) (by exact Int.not_lt.mp (fun u9 => lin [] [] (.L 1 (.a (.i (0 + 1)) (.i 1)) (.i 0) .n) (by kernel_rfl) u9)) (nn (c := 40) ((g 2).trans rfl) (by decide)) (nn (c := 40) ((g 2).trans rfl) (by decide)) fun sn' =>
      go_shut (by exact Nat.not_le.mp (fun u9 => lin [_, _, _] [] (.l 1 (.v 0) (.a (.a (.a (.v 1) (.c 1)) (.c 1)) (.c 1)) (.e (-1) (.v 0) (.a (.v 1) (.a (.c 4) (.v 2))) .n)) (by kernel_rfl) u9 hl)) (by exact Int.not_lt.mp (fun u9 => lin [] [] (.L 1 (.a (.i ((0 + 1) + 1)) (.i 1)) (.i 0) .n) (by kernel_rfl) u9)) (by exact Nat.not_le.mp (fun u9 => lin [_] [] (.l 1 (.a (.a (.a (.v 0) (.c 1)) (.c 1)) (.c 1)) (.v 0) .n) (by kernel_rfl) u9)) ((g 3).trans rfl)
    exact ⟨N, sn₂, by exact Nat.not_lt.mp (fun u9 => lin [_] [] (.l 1 (.a (.c 50) (.c 1)) (.v 0) (.l 1 (.v 0) (.c (16 + 6)) .n)) (by kernel_rfl) u9 hN), e⟩
  · intro g hsz
    have hl : lim = pre.length + (5 + rest.length) := hsz
    refine step_open (N := 0) (m := inLoop text lim 0 ad first 0 0 sn) (by exact Nat.not_le.mp (fun u9 => lin [_, _, _] [] (.l 1 (.v 0) (.v 1) (.e (-1) (.v 0) (.a (.v 1) (.a (.c 5) (.v 2))) .n)) (by kernel_rfl) u9 hl)) ((g 0).trans rfl) fun sn' => ?_
    obtain ⟨N, sn₂, hN, e⟩ := go_esc (text := text) (lim := lim) (s := pre.length) (ad := ad) (first := first) (sn := sn') (p := pre.length + 1) (count := 0) (e := pre.length + 5) (k := 16) (by exact Nat.not_le.mp (fun u9 => lin [_, _, _] [] (.l 1 (.v 0) (.a (.a (.v 1) (.c 1)) (.c 1)) (.e (-1) (.v 0) (.a (.v 1) (.a (.c 5) (.v 2))) .n)) (by kernel_rfl) u9 hl)) (by exact Int.not_lt.mp (fun u9 => lin [] [] (.L 1 (.a (.i 0) (.i 1)) (.i 0) .n) (by kernel_rfl) u9)) ((g 1).trans rfl) (nn (c := 34) ((g 2).trans rfl) (by decide)) fun sn' =>
      go_plain (by exact Nat.not_le.mp (fun u9 => lin [_, _, _] [] (.l 1 (.v 0) (.a (.a (.v 1) (.c 1)) (.c 2)) (.e (-1) (.v 0) (.a (.v 1) (.a (.c 5) (.v 2))) .n)) (by kernel_rfl) u9 hl)) (by exact Int.not_lt.mp (fun u9 => lin [] [] (.L 1 (.a (.i (0 + 1)) (.i 1)) (.i 0) .n) (by kernel_rfl) u9)) (nn (c := 40) ((g 3).trans rfl) (by decide)) (nn (c := 40) ((g 3).trans rfl) (by decide)) fun sn' =>
      go_shut (by exact Nat.not_le.mp (fun u9 => lin [_, _, _] [] (.l 1 (.v 0) (.a (.a (.a (.v 1) (.c 1)) (.c 2)) (.c 1)) (.e (-1) (.v 0) (.a (.v 1) (.a (.c 5) (.v 2))) .n)) (by kernel_rfl) u9 hl)) (by exact Int.not_lt.mp (fun u9 => lin [] [] (.L 1 (.a (.i ((0 + 1) + 1)) (.i 1)) (.i 0) .n) (by kernel_rfl) u9)) (by exact Nat.not_le.mp (fun u9 => lin [_] [] (.l 1 (.a (.a (.a (.v 0) (.c 1)) (.c 2)) (.c 1)) (.v 0) .n) (by kernel_rfl) u9)) ((g 4).trans rfl)
    exact ⟨N, sn₂, by exact Nat.not_lt.mp (fun u9 => lin [_] [] (.l 1 (.a (.c 50) (.c 1)) (.v 0) (.l 1 (.v 0) (.c (16 + 9)) .n)) (by kernel_rfl) u9 hN), e⟩
  · intro g hsz
    have hl : lim = pre.length + (5 + rest.length) := hsz
    refine step_open (N := 0) (m := inLoop text lim 0 ad first 0 0 sn) (by exact Nat.not_le.mp (fun u9 => lin [_, _, _] [] (.l 1 (.v 0) (.v 1) (.e (-1) (.v 0) (.a (.v 1) (.a (.c 5) (.v 2))) .n)) (by kernel_rfl) u9 hl)) ((g 0).trans rfl) fun sn' => ?_
    obtain ⟨N, sn₂, hN, e⟩ := go_esc (text := text) (lim := lim) (s := pre.length) (ad := ad) (first := first) (sn := sn') (p := pre.length + 1) (count := 0) (e := pre.length + 5) (k := 16) (by exact Nat.not_le.mp (fun u9 => lin [_, _, _] [] (.l 1 (.v 0) (.a (.a (.v 1) (.c 1)) (.c 1)) (.e (-1) (.v 0) (.a (.v 1) (.a (.c 5) (.v 2))) .n)) (by kernel_rfl) u9 hl)) (by exact Int.not_lt.mp (fun u9 => lin [] [] (.L 1 (.a (.i 0) (.i 1)) (.i 0) .n) (by kernel_rfl) u9)) ((g 1).trans rfl) (nn (c := 92) ((g 2).trans rfl) (by decide)) fun sn' =>
      go_plain (by exact Nat.not_le.mp (fun u9 => lin [_, _, _] [] (.l 1 (.v 0) (.a (.a (.v 1) (.c 1)) (.c 2)) (.e (-1) (.v 0) (.a (.v 1) (.a (.c 5) (.v 2))) .n)) (by kernel_rfl) u9 hl)) (by exact Int.not_lt.mp (fun u9 => lin [] [] (.L 1 (.a (.i (0 + 1)) (.i 1)) (.i 0) .n) (by kernel_rfl) u9)) (nn (c := 41) ((g 3).trans rfl) (by decide)) (nn (c := 41) ((g 3).trans rfl) (by decide)) fun sn' =>
      go_shut (by exact Nat.not_le.mp (fun u9 => lin [_, _, _] [] (.l 1 (.v 0) (.a (.a (.a (.v 1) (.c 1)) (.c 2)) (.c 1)) (.e (-1) (.v 0) (.a (.v 1) (.a (.c 5) (.v 2))) .n)) (by kernel_rfl) u9 hl)) (by exact Int.not_lt.mp (fun u9 => lin [] [] (.L 1 (.a (.i ((0 + 1) + 1)) (.i 1)) (.i 0) .n) (by kernel_rfl) u9)) (by exact Nat.not_le.mp (fun u9 => lin [_] [] (.l 1 (.a (.a (.a (.v 0) (.c 1)) (.c 2)) (.c 1)) (.v 0) .n) (by kernel_rfl) u9)) ((g 4).trans rfl)
    exact ⟨N, sn₂, by exact Nat.not_lt.mp (fun u9 => lin [_] [] (.l 1 (.a (.c 50) (.c 1)) (.v 0) (.l 1 (.v 0) (.c (16 + 9)) .n)) (by kernel_rfl) u9 hN), e⟩
theorem find_lab (i : Fin 6) : ∀ (bs : List Pce) (pre rest : List Nat) (ad first : Bool) (sn : Sre.Seen), (∀ b ∈ bs, isLab b = false) →
    ∃ N sn₂ ad₂ f₂, N ≤ 2 * bs.length + 60 ∧ M.runFor N (atStart (pre ++ (tx bs ++ (tx [.lab i] ++ rest))).toArray (pre ++ (tx bs ++ (tx [.lab i] ++ rest))).toArray.size pre.length ad first sn) =
      hit (pre ++ (tx bs ++ (tx [.lab i] ++ rest))).toArray (pre ++ (tx bs ++ (tx [.lab i] ++ rest))).toArray.size (pre.length + bs.length) ad₂ f₂ (pre.length + bs.length + (labB i).length) (some .matched) sn₂
  | [], pre, rest, ad, first, sn, _ => by
    obtain ⟨N, sn₂, hN, e⟩ := find_at pre rest i ad first sn
    exact ⟨N, sn₂, ad, first, by simpa using hN, e⟩
  | b :: bs, pre, rest, ad, first, sn, h => by
    have e0 : ∃ c, tx (b :: bs) = c :: tx bs ∧ c ≠ 34 := by
      have hb := h b (.head _)
      cases b with
      | op => exact ⟨40, rfl, by decide⟩
      | cl => exact ⟨41, rfl, by decide⟩
      | lab i => cases hb
    obtain ⟨c, e0, hc⟩ := e0
    rw [e0]
    have e1 : pre ++ (c :: tx bs ++ (tx [.lab i] ++ rest)) = pre ++ [c] ++ (tx bs ++ (tx [.lab i] ++ rest)) := by simp
    have g := getD_at pre (c :: tx bs ++ (tx [.lab i] ++ rest)) 0
    have hlt : pre.length < (pre ++ (c :: tx bs ++ (tx [.lab i] ++ rest))).toArray.size := by simp
    obtain ⟨sn', e2⟩ := q_no (text := (pre ++ (c :: tx bs ++ (tx [.lab i] ++ rest))).toArray) (s := pre.length) (ad := ad) (first := first) (sn := sn) hlt (by rw [Nat.add_zero] at g; rw [g]; exact hc)
    obtain ⟨N, sn₂, ad₂, f₂, hN, e3⟩ := find_lab i bs (pre ++ [c]) rest false false sn' fun x hx => h x (.tail _ hx)
    rw [← e1, List.length_append, List.length_singleton] at e3
    refine ⟨2 + N, sn₂, ad₂, f₂, by rw [List.length_cons]; exact Nat.not_lt.mp (fun u9 => lin [_, _] [] (.l 1 (.a (.a (.m 2 (.a (.v 1) (.c 1))) (.c 60)) (.c 1)) (.a (.c 2) (.v 0)) (.l 1 (.v 0) (.a (.m 2 (.v 1)) (.c 60)) .n)) (by kernel_rfl) u9 hN), ?_⟩
    rw [run_add, e2, e3, List.length_cons, show pre.length + 1 + bs.length = pre.length + (bs.length + 1) by exact linn [_, _] [] (.a (.a (.v 0) (.c 1)) (.v 1)) (.a (.v 0) (.a (.v 1) (.c 1))) .n (by kernel_rfl)]
theorem find_none : ∀ (bs : List Pce) (pre : List Nat) (ad first : Bool) (sn : Sre.Seen), (∀ b ∈ bs, isLab b = false) →
    ∃ N m, N ≤ 2 * bs.length + 3 ∧ M.runFor N (atStart (pre ++ tx bs).toArray (pre ++ tx bs).toArray.size pre.length ad first sn) = m ∧ m.outcome = some .failed
  | [], pre, ad, first, sn, _ => by
    have e : (pre ++ tx []).toArray.size = pre.length := by simp [tx, bB]
    obtain ⟨m, e1, e2⟩ := q_end (text := (pre ++ tx []).toArray) (s := pre.length) (ad := ad) (first := first) (sn := sn)
    rw [e]
    exact ⟨3, m, by simp, e1, e2⟩
  | b :: bs, pre, ad, first, sn, h => by
    have e0 : ∃ c, tx (b :: bs) = c :: tx bs ∧ c ≠ 34 := by
      have hb := h b (.head _)
      cases b with
      | op => exact ⟨40, rfl, by decide⟩
      | cl => exact ⟨41, rfl, by decide⟩
      | lab i => cases hb
    obtain ⟨c, e0, hc⟩ := e0
    rw [e0]
    have e1 : pre ++ (c :: tx bs) = pre ++ [c] ++ tx bs := by simp
    have g := getD_at pre (c :: tx bs) 0
    have hlt : pre.length < (pre ++ (c :: tx bs)).toArray.size := by simp
    obtain ⟨sn', e2⟩ := q_no (text := (pre ++ (c :: tx bs)).toArray) (s := pre.length) (ad := ad) (first := first) (sn := sn) hlt (by rw [Nat.add_zero] at g; rw [g]; exact hc)
    obtain ⟨N, m, hN, e3, e4⟩ := find_none bs (pre ++ [c]) false false sn' fun x hx => h x (.tail _ hx)
    rw [← e1, List.length_append, List.length_singleton] at e3
    refine ⟨2 + N, m, by rw [List.length_cons]; exact Nat.not_lt.mp (fun u9 => lin [_, _] [] (.l 1 (.a (.a (.m 2 (.a (.v 1) (.c 1))) (.c 3)) (.c 1)) (.a (.c 2) (.v 0)) (.l 1 (.v 0) (.a (.m 2 (.v 1)) (.c 3)) .n)) (by kernel_rfl) u9 hN), ?_, e4⟩
    rw [run_add, e2, e3]
/-- the search, as the loop calls it -/
theorem search_lab (i : Fin 6) (bs : List Pce) (pre rest : List Nat) (must : Bool) (h : ∀ b ∈ bs, isLab b = false) :
    ∃ N sn₂ ad₂ f₂, N ≤ 2 * bs.length + 60 ∧ M.runFor N (forSearch qcode (pre ++ (tx bs ++ (tx [.lab i] ++ rest))).toArray 0 pre.length (pre ++ (tx bs ++ (tx [.lab i] ++ rest))).toArray.size must) =
      hit (pre ++ (tx bs ++ (tx [.lab i] ++ rest))).toArray (pre ++ (tx bs ++ (tx [.lab i] ++ rest))).toArray.size (pre.length + bs.length) ad₂ f₂ (pre.length + bs.length + (labB i).length) (some .matched) sn₂ := by
  rw [search_starts]
  · exact find_lab i bs pre rest must true _ h
  · have : 3 ≤ (tx [.lab i]).length := by
      match i with
      | 0 => decide
      | 1 => decide
      | 2 => decide
      | 3 => decide
      | 4 => decide
      | 5 => decide
    simp only [List.size_toArray, List.length_append]
    exact Nat.not_lt.mp (fun u9 => lin [_, _, _, _] [] (.l 1 (.a (.a (.v 1) (.a (.v 2) (.a (.v 0) (.v 3)))) (.c 1)) (.a (.v 1) (.c 2)) (.l 1 (.c 3) (.v 0) .n)) (by kernel_rfl) u9 this)
theorem search_none (bs : List Pce) (pre : List Nat) (must : Bool) (h : ∀ b ∈ bs, isLab b = false) :
    ∃ N m, N ≤ 2 * bs.length + 4 ∧ M.runFor N (forSearch qcode (pre ++ tx bs).toArray 0 pre.length (pre ++ tx bs).toArray.size must) = m ∧ m.outcome = some .failed := by
  by_cases hs : (pre ++ tx bs).toArray.size < pre.length + 2
  · exact ⟨4, _, by exact Nat.not_lt.mp (fun u9 => lin [_] [] (.l 1 (.a (.a (.m 2 (.v 0)) (.c 4)) (.c 1)) (.c 4) .n) (by kernel_rfl) u9), rfl, search_short _ _ _ hs⟩
  · rw [search_starts _ _ _ (by exact Nat.not_lt.mp (fun u9 => lin [_, _] [] (.l 1 (.a (.v 1) (.c 1)) (.a (.v 0) (.c 2)) (.l 1 (.a (.v 0) (.c 2)) (.v 1) .n)) (by kernel_rfl) u9 (Nat.not_lt.mp hs)))]
    obtain ⟨N, m, hN, e, e2⟩ := find_none bs pre must true _ h
    exact ⟨N, m, by exact Nat.not_lt.mp (fun u9 => lin [_, _] [] (.l 1 (.a (.a (.m 2 (.v 1)) (.c 4)) (.c 1)) (.v 0) (.l 1 (.v 0) (.a (.m 2 (.v 1)) (.c 3)) .n)) (by kernel_rfl) u9 hN), e, e2⟩
end
section
theorem plain_rp : PlainAttrs "re.Pattern" :=
  ⟨⟨"object.__getattribute__", by rw [typeLookup_type, builtinLookup_eq_fast]; kernel_rfl, by decide +kernel⟩, by rw [typeLookup_type, builtinLookup_eq_fast]; kernel_rfl⟩
theorem own_rp : Manifest.owners.lookup (String.ofList ['n', 'r', 'e', 't', 't', 'a', 'P', '.', 'e', 'r'].reverse) = some Manifest.sig_re_Pattern := by kernel_rfl
theorem slot_sub : Slot "re.Pattern" "sub" "re.Pattern.sub" :=
  .of (owner := "re.Pattern") (n := "sub") (by rw [typeLookup_type, builtinLookup_eq_fast]; kernel_rfl) (by decide +kernel) (by decide +kernel) (by decide +kernel)
    (by first | exact .inl (by decide +kernel) | exact .inr (by decide +kernel)) (by rw [isSubtype_type]; kernel_rfl)
theorem entry_sub : entryFor table "re.Pattern.sub" = some Builtin.«re.Pattern.sub» := entryFor_of_tree (by kernel_rfl)
theorem entry_subloop : entryFor table "re.Pattern.sub.loop" = some Builtin.«re.Pattern.sub.loop» := entryFor_of_tree (by kernel_rfl)
theorem plain_subloop : plainId "re.Pattern.sub.loop" = true := by decide +kernel
theorem args_sub (a b c : Value) : argsOk "re.Pattern.sub" ⟨[a, b, c], []⟩ := by
  unfold argsOk; rw [signature?_of (id := "re.Pattern.sub") (n := ['b', 'u', 's']) (o := ['n', 'r', 'e', 't', 't', 'a', 'P', '.', 'e', 'r']) (by kernel_rfl) own_rp]; kernel_rfl
theorem slot_count : Slot "bytes" "count" "bytes.count" :=
  .of (owner := "bytes") (n := "count") (by rw [typeLookup_type, builtinLookup_eq_fast]; kernel_rfl) (by decide +kernel) (by decide +kernel) (by decide +kernel)
    (by first | exact .inl (by decide +kernel) | exact .inr (by decide +kernel)) (by rw [isSubtype_type]; kernel_rfl)
theorem entry_count : entryFor table "bytes.count" = some Builtin.«bytes.count» := entryFor_of_tree (by kernel_rfl)
theorem args_count (a b : Value) : argsOk "bytes.count" ⟨[a, b], []⟩ := by
  unfold argsOk; rw [signature?_of (id := "bytes.count") (n := ['t', 'n', 'u', 'o', 'c']) (o := ['s', 'e', 't', 'y', 'b']) (by kernel_rfl) FB.owner_bytes]; kernel_rfl
theorem slot_join : Slot "bytes" "join" "bytes.join" :=
  .of (owner := "bytes") (n := "join") (by rw [typeLookup_type, builtinLookup_eq_fast]; kernel_rfl) (by decide +kernel) (by decide +kernel) (by decide +kernel)
    (by first | exact .inl (by decide +kernel) | exact .inr (by decide +kernel)) (by rw [isSubtype_type]; kernel_rfl)
theorem entry_join : entryFor table "bytes.join" = some Builtin.«bytes.join» := entryFor_of_tree (by kernel_rfl)
theorem args_join (a b : Value) : argsOk "bytes.join" ⟨[a, b], []⟩ := by
  unfold argsOk; rw [signature?_of (id := "bytes.join") (n := ['n', 'i', 'o', 'j']) (o := ['s', 'e', 't', 'y', 'b']) (by kernel_rfl) FB.owner_bytes]; kernel_rfl
theorem call_look : typeLookup (.type "bytes") "__call__" = pure none := by rw [typeLookup_type, builtinLookup_eq_fast]; kernel_rfl
section
variable {prog : Program} {w : World} {A : Around} {E : Value → Shared → Prop} {s : Shared}
open Builtin in
theorem drive (turns : Nat) : ∀ (N : Nat) (m m' : Sre.M) {Q : Sre.M → Shared → Prop}, 0 < turns → N ≤ 4 * turns → Sre.M.runFor N m = m' → m'.outcome.isSome = true → Q m' s → wpAny (model prog w) A (Re.reDrive turns m) Q E s := by
  induction turns with
  | zero => intro N m m' Q h; omega
  | succ n ih =>
    intro N m m' Q _ hN hr ho hq
    unfold Re.reDrive
    show wpAny (model prog w) A (if (Sre.M.runFor 4 m).outcome.isSome = true then pure (Sre.M.runFor 4 m) else _) Q E s
    by_cases h : (Sre.M.runFor 4 m).outcome.isSome = true
    · rw [if_pos h]
      have e : Sre.M.runFor 4 m = m' := by
        by_cases h4 : 4 ≤ N
        · have := run_add 4 (N - 4) m
          rw [show 4 + (N - 4) = N by exact linn [_, _] [] (.a (.c 4) (.v 1)) (.v 0) (.e (-1) (.a (.v 1) (.c 4)) (.v 0) .n) (by kernel_rfl) (Nat.sub_add_cancel (Nat.not_lt.mp (fun u9 => lin [_] [] (.l 1 (.a (.v 0) (.c 1)) (.c 4) (.l 1 (.c 4) (.v 0) .n)) (by kernel_rfl) u9 h4))), run_stop _ _ h] at this
          rw [← this, hr]
        · have := run_add N (4 - N) m
          rw [show N + (4 - N) = 4 by exact linn [_, _] [] (.a (.v 0) (.v 1)) (.c 4) (.e (-1) (.a (.v 1) (.v 0)) (.c 4) .n) (by kernel_rfl) (Nat.sub_add_cancel (Nat.not_lt.mp (fun u9 => lin [_] [] (.l 1 (.a (.c 4) (.c 1)) (.v 0) (.l 1 (.a (.v 0) (.c 1)) (.c 4) .n)) (by kernel_rfl) u9 (Nat.not_le.mp h4)))), hr, run_stop _ _ ho] at this
          exact this
      rw [e]
      exact wpAny_pure hq
    · rw [if_neg h]
      refine wpAny_bind (wpAny_rule ?_)
      have h4 : 4 < N := by
        rcases Nat.lt_or_ge 4 N with h4 | h4
        · exact h4
        · exfalso
          have := run_add N (4 - N) m
          rw [show N + (4 - N) = 4 by exact linn [_, _] [] (.a (.v 0) (.v 1)) (.c 4) (.e (-1) (.a (.v 1) (.v 0)) (.c 4) .n) (by kernel_rfl) (Nat.sub_add_cancel (Nat.not_lt.mp (fun u9 => lin [_] [] (.l 1 (.a (.c 4) (.c 1)) (.v 0) (.l 1 (.v 0) (.c 4) .n)) (by kernel_rfl) u9 h4))), hr, run_stop _ _ ho] at this
          rw [this] at h
          exact h ho
      refine ih (N - 4) (Sre.M.runFor 4 m) m' (by (rename_i w0; exact Nat.not_le.mp (fun u9 => lin [_, _] [] (.l 4 (.v 0) (.c 0) (.l 1 (.v 1) (.m 4 (.a (.v 0) (.c 1))) (.l 1 (.a (.c 4) (.c 1)) (.v 1) .n))) (by kernel_rfl) u9 hN h4))) (by exact Nat.not_lt.mp (fun u9 => lin [_, _, _] [] (.l 1 (.a (.m 4 (.v 1)) (.c 1)) (.v 2) (.l 1 (.v 0) (.m 4 (.a (.v 1) (.c 1))) (.e 1 (.a (.v 2) (.c 4)) (.v 0) .n))) (by kernel_rfl) u9 hN (Nat.sub_add_cancel (Nat.not_lt.mp (fun u9 => lin [_] [] (.l 1 (.a (.v 0) (.c 1)) (.c 4) (.l 1 (.a (.c 4) (.c 1)) (.v 0) .n)) (by kernel_rfl) u9 h4))))) ?_ ho hq
      rw [← run_add, show 4 + (N - 4) = N by exact linn [_, _] [] (.a (.c 4) (.v 1)) (.v 0) (.e (-1) (.a (.v 1) (.c 4)) (.v 0) .n) (by kernel_rfl) (Nat.sub_add_cancel (Nat.not_lt.mp (fun u9 => lin [_] [] (.l 1 (.a (.v 0) (.c 1)) (.c 4) (.l 1 (.a (.c 4) (.c 1)) (.v 0) .n)) (by kernel_rfl) u9 h4))), hr]
theorem wp_rules (c : Nat → Bool) (r : Nat → String) {Q : PUnit → Shared → Prop} (h : Q ⟨⟩ s) : ∀ l : List Nat,
    wpAny (model prog w) A (forIn l PUnit.unit fun i _ => if c i = true then (do rule (r i); pure (ForInStep.yield PUnit.unit)) else pure (ForInStep.yield PUnit.unit)) Q E s
  | [] => wpAny_pure h
  | i :: l => by
    rw [List.forIn_cons]
    refine wpAny_bind ?_
    by_cases hc : c i = true
    · rw [if_pos hc]
      exact wpAny_bind (wpAny_rule (wpAny_pure (wp_rules c r h l)))
    · rw [if_neg hc]
      exact wpAny_pure (wp_rules c r h l)
theorem run_hit {m m' : Sre.M} {N : Nat} {Q : Option Sre.M → Shared → Prop} (hN : N ≤ 1000000) (hr : Sre.M.runFor N m = m') (ho : m'.outcome = some .matched) (h : Q (some m') s) : wpAny (model prog w) A (Builtin.Re.reRunToEnd m) Q E s := by
  unfold Builtin.Re.reRunToEnd
  refine wpAny_bind (drive (2 ^ 64) N m m' (by decide) (by exact Nat.not_lt.mp (fun u9 => lin [_] [] (.l 1 (.a (.c (4 * (2 ^ 64))) (.c 1)) (.v 0) (.l 1 (.v 0) (.c 1000000) .n)) (by kernel_rfl) u9 hN)) hr (by rw [ho]; rfl) ?_)
  refine wpAny_bind ?_
  refine wpAny_mono (wp_rules (fun i => m'.seen.has i) (fun i => Sre.names.getD i "") (Q := fun _ s' => s' = s) rfl _) ?_ fun _ _ e => e
  rintro _ _ rfl
  rw [ho]
  exact wpAny_pure h
theorem run_miss {m m' : Sre.M} {N : Nat} {Q : Option Sre.M → Shared → Prop} (hN : N ≤ 1000000) (hr : Sre.M.runFor N m = m') (ho : m'.outcome = some .failed) (h : Q none s) : wpAny (model prog w) A (Builtin.Re.reRunToEnd m) Q E s := by
  unfold Builtin.Re.reRunToEnd
  refine wpAny_bind (drive (2 ^ 64) N m m' (by decide) (by exact Nat.not_lt.mp (fun u9 => lin [_] [] (.l 1 (.a (.c (4 * (2 ^ 64))) (.c 1)) (.v 0) (.l 1 (.v 0) (.c 1000000) .n)) (by kernel_rfl) u9 hN)) hr (by rw [ho]; rfl) ?_)
  refine wpAny_bind ?_
  refine wpAny_mono (wp_rules (fun i => m'.seen.has i) (fun i => Sre.names.getD i "") (Q := fun _ s' => s' = s) rfl _) ?_ fun _ _ e => e
  rintro _ _ rfl
  rw [ho]
  exact wpAny_pure h
end
end
section
open Builtin in
theorem occ_go (b : List UInt8) (c : UInt8) : ∀ n, n ≤ b.length →
    let r := ((List.range n).map (· + 0)).foldl (fun (acc : List Nat × Nat) (i : Nat) => if i ≥ acc.2 && b.toArray.extract i (i + 1) == #[c] then (i :: acc.1, i + 1) else acc) ([], 0)
    r.2 ≤ n ∧ r.1.length = (b.take n).count c
  | 0, _ => ⟨Nat.le_refl _, rfl⟩
  | n + 1, h => by
    have ih := occ_go b c n (by exact Nat.not_lt.mp (fun u9 => lin [_, _] [] (.l 1 (.a (.v 1) (.c 1)) (.v 0) (.l 1 (.a (.v 0) (.c 1)) (.v 1) .n)) (by kernel_rfl) u9 h))
    intro r
    have hr : r = (fun (acc : List Nat × Nat) (i : Nat) => if i ≥ acc.2 && b.toArray.extract i (i + 1) == #[c] then (i :: acc.1, i + 1) else acc) (((List.range n).map (· + 0)).foldl (fun (acc : List Nat × Nat) (i : Nat) => if i ≥ acc.2 && b.toArray.extract i (i + 1) == #[c] then (i :: acc.1, i + 1) else acc) ([], 0)) n := by
      show ((List.range (n + 1)).map (· + 0)).foldl _ _ = _
      rw [List.range_succ, List.map_append, List.foldl_append]
      rfl
    rw [hr]
    generalize ((List.range n).map (· + 0)).foldl (fun (acc : List Nat × Nat) (i : Nat) => if i ≥ acc.2 && b.toArray.extract i (i + 1) == #[c] then (i :: acc.1, i + 1) else acc) ([], 0) = q at ih
    dsimp only at ih ⊢
    have hx : b.toArray.extract n (n + 1) = #[b[n]'(by exact Nat.not_le.mp (fun u9 => lin [_, _] [] (.l 1 (.v 1) (.v 0) (.l 1 (.a (.v 0) (.c 1)) (.v 1) .n)) (by kernel_rfl) u9 h))] := by
      apply Array.toList_inj.mp
      simp only [List.extract_toArray, List.extract_eq_take_drop]
      rw [List.drop_eq_getElem_cons (by exact Nat.not_le.mp (fun u9 => lin [_, _] [] (.l 1 (.v 1) (.v 0) (.l 1 (.a (.v 0) (.c 1)) (.v 1) .n)) (by kernel_rfl) u9 h)), show n + 1 - n = 1 by exact linn [_, _] [] (.v 0) (.c 1) (.e (-1) (.a (.v 0) (.v 1)) (.a (.v 1) (.c 1)) .n) (by kernel_rfl) (Nat.sub_add_cancel (Nat.not_lt.mp (fun u9 => lin [_] [] (.l 1 (.a (.a (.v 0) (.c 1)) (.c 1)) (.v 0) .n) (by kernel_rfl) u9)))]
      rfl
    rw [hx]
    have ht : b.take (n + 1) = b.take n ++ [b[n]'(by exact Nat.not_le.mp (fun u9 => lin [_, _] [] (.l 1 (.v 1) (.v 0) (.l 1 (.a (.v 0) (.c 1)) (.v 1) .n)) (by kernel_rfl) u9 h))] := by rw [List.take_add_one, List.getElem?_eq_getElem (by exact Nat.not_le.mp (fun u9 => lin [_, _] [] (.l 1 (.v 1) (.v 0) (.l 1 (.a (.v 0) (.c 1)) (.v 1) .n)) (by kernel_rfl) u9 h))]; rfl
    rw [ht, List.count_append]
    by_cases e : b[n]'(by exact Nat.not_le.mp (fun u9 => lin [_, _] [] (.l 1 (.v 1) (.v 0) (.l 1 (.a (.v 0) (.c 1)) (.v 1) .n)) (by kernel_rfl) u9 h)) = c
    · have : (decide (n ≥ q.2) && #[b[n]'(by exact Nat.not_le.mp (fun u9 => lin [_, _] [] (.l 1 (.v 1) (.v 0) (.l 1 (.a (.v 0) (.c 1)) (.v 1) .n)) (by kernel_rfl) u9 h))] == #[c]) = true := by rw [e]; simp [ih.1]
      rw [if_pos this]
      refine ⟨Nat.le_refl _, ?_⟩
      show q.1.length + 1 = _
      rw [ih.2, e]; simp
    · have : ¬ (decide (n ≥ q.2) && #[b[n]'(by exact Nat.not_le.mp (fun u9 => lin [_, _] [] (.l 1 (.v 1) (.v 0) (.l 1 (.a (.v 0) (.c 1)) (.v 1) .n)) (by kernel_rfl) u9 h))] == #[c]) = true := by simp [e]
      rw [if_neg this]
      refine ⟨by exact Nat.not_lt.mp (fun u9 => lin [_, _] [] (.l 1 (.a (.a (.v 1) (.c 1)) (.c 1)) (.v 0) (.l 1 (.v 0) (.v 1) .n)) (by kernel_rfl) u9 ih.1), ?_⟩
      rw [ih.2]; simp [e]
theorem occ_count (b : List UInt8) (c : UInt8) : (Builtin.Bytes.occurrences b.toArray #[c] 0 b.toArray.size).length = b.count c := by
  have h := occ_go b c b.length (Nat.le_refl _)
  rw [List.take_of_length_le (Nat.le_refl _)] at h
  rw [← h.2]
  unfold Builtin.Bytes.occurrences
  rw [List.length_reverse]
  have : b.toArray.size + 1 - (0 + (#[c] : Array UInt8).size) = b.length := by simp
  rw [this]
  rfl
theorem win_eq (n : Nat) : Builtin.Bytes.window n none none = (0, (n : Int)) := by
  unfold Builtin.Bytes.window
  have h : ¬ ((n : Int) < 0) := by exact fun u9 => lin [_] [] (.L 1 (.a (.z (.v 0)) (.i 1)) (.i 0) .n) (by kernel_rfl) u9
  show ((if (0 : Int) < 0 then _ else (0 : Int)), min (n : Int) (if (n : Int) < 0 then _ else (n : Int))) = _
  rw [if_neg h, if_neg (by decide), Int.min_self]
open Builtin in
theorem count_eq (b : List UInt8) (c : UInt8) (t u : Tok) : «bytes.count» ⟨[.bytes b.toArray t, .bytes #[c] u], []⟩ = retInt (b.count c : Nat) := by
  have e : Bytes.searchArgs .bytes "count" ⟨[.bytes b.toArray t, .bytes #[c] u], []⟩ = pure (b.toArray, #[c], if (Bytes.window b.toArray.size none none).2 - (Bytes.window b.toArray.size none none).1 < ((#[c] : Array UInt8).size : Int) then none else some ((Bytes.window b.toArray.size none none).1.toNat, (Bytes.window b.toArray.size none none).2.toNat)) := by
    unfold Bytes.searchArgs
    show (Bytes.buffer? _ (.bytes #[c] u) >>= _) = _
    rw [KBy.buffer_eq]
    rfl
  show (Bytes.searchArgs .bytes "count" ⟨[.bytes b.toArray t, .bytes #[c] u], []⟩ >>= _) = _
  rw [e, win_eq]
  rw [← occ_count]
  by_cases h : b = []
  · subst h; rfl
  · have h1 : ¬ ((b.toArray.size : Int) - 0 < ((#[c] : Array UInt8).size : Int)) := by
      have := List.length_pos_iff.mpr h
      simp only [List.size_toArray, List.length_singleton]
      exact fun u9 => lin [_] [] (.L 1 (.a (.s (.z (.v 0)) (.i 0)) (.i 1)) (.z (.c 1)) (.l 1 (.a (.c 0) (.c 1)) (.v 0) .n)) (by kernel_rfl) u9 this
    rw [if_neg h1]
    rfl
section
variable {prog : Program} {w : World} {A : Around} {E : Value → Shared → Prop} {s : Shared}
theorem call_count {b : List UInt8} {c : UInt8} {t u : Tok} {Q : Value → Shared → Prop} (h : ∀ k, Q (.int (b.count c : Nat) s.toks) { s with toks := k }) : wpAny (model prog w) A (call (.builtin "bytes.count") [.bytes b.toArray t, .bytes #[c] u]) Q E s := by
  refine wpAny_call_entry slot_count (typeIs_bytes s b.toArray t) entry_count ?_ (args_count _ _)
  rw [count_eq]
  exact wpAny_bind (wpAny_mkInt (wpAny_pure ⟨_, rfl, h _⟩))
end
end
section
/-- bytes, piece by piece -/
inductive Bys : List Value → List (List UInt8) → Prop where
  | nil : Bys [] []
  | cons {vs bs} (b : List UInt8) (t : Tok) : Bys vs bs → Bys (.bytes b.toArray t :: vs) (b :: bs)
theorem Bys.snoc {vs : List Value} {bs : List (List UInt8)} (h : Bys vs bs) (b : List UInt8) (t : Tok) : Bys (vs ++ [.bytes b.toArray t]) (bs ++ [b]) := by
  induction h with
  | nil => exact .cons b t .nil
  | cons c u _ ih => exact .cons c u ih
theorem Bys.length {vs : List Value} {bs : List (List UInt8)} (h : Bys vs bs) : vs.length = bs.length := by
  induction h with
  | nil => rfl
  | cons c u _ ih => rw [List.length_cons, List.length_cons, ih]
open Builtin in
theorem take_quiet {id : String} {b : Array UInt8} {t : Tok} : Bytes.takeBufferQuiet? id (.bytes b t) 0 = pure (some (b, none)) := by
  unfold Bytes.takeBufferQuiet? Bytes.takeBuffer?
  have e : ((0 : Int) == Bytes.fullReadOnly) = false := by decide
  rw [KBy.special_eq KBy.look_buffer, KBy.own_buffer, e, KBy.buffer_eq]
  kernel_rfl
section
variable {prog : Program} {w : World} {A : Around} {E : Value → Shared → Prop} {s : Shared}
open Builtin in
theorem join_go {Q : Unit → Shared → Prop} (keep : List Value) (h : Q () s) : ∀ taken : List (Value × Option Value), (∀ p ∈ taken, p.2 = none) → wpAny (model prog w) A (Bytes.joinLetGo taken keep) Q E s
  | [], _ => wpAny_pure h
  | (x, none) :: rest, hn => wpAny_bind (wpAny_letGo (join_go keep h rest fun p hp => hn p (.tail _ hp)))
  | (x, some w) :: rest, hn => nomatch hn _ (.head _)
/-- what the loop of join holds -/
noncomputable def JoinInv (bs : List (List UInt8)) (i : Nat) (st : Array (Array UInt8) × List (Value × Option Value)) : Prop :=
  st.1.toList = (bs.take i).map List.toArray ∧ (∀ p ∈ st.2, p.2 = none ∧ ∃ (b : Array UInt8) (t : Tok), p.1 = .bytes b t)
theorem forIn_inv {β : Type} {Q : β → Shared → Prop} (I : Nat → β → Prop) {f : Nat → β → Sem (ForInStep β)} (n : Nat)
    (turn : ∀ i b, i < n → I i b → wpAny (model prog w) A (f i b) (fun r s' => s' = s ∧ ∃ b', r = .yield b' ∧ I (i + 1) b') E s) (done : ∀ b, I n b → Q b s) :
    ∀ (k i : Nat) (b : β), i + k = n → I i b → wpAny (model prog w) A (forIn (List.range' i k) b f) Q E s
  | 0, i, b, hi, h => by
    have : i = n := by exact linn [_, _] [] (.v 0) (.v 1) (.e (-1) (.a (.v 0) (.c 0)) (.v 1) .n) (by kernel_rfl) hi
    subst this
    exact wpAny_pure (done b h)
  | k + 1, i, b, hi, h => by
    rw [List.range'_succ, List.forIn_cons]
    refine wpAny_bind (wpAny_mono (turn i b (by exact Nat.not_le.mp (fun u9 => lin [_, _, _] [] (.l 1 (.v 2) (.v 0) (.e 1 (.a (.v 0) (.a (.v 1) (.c 1))) (.v 2) .n)) (by kernel_rfl) u9 hi)) h) ?_ fun _ _ e => e)
    rintro r s' ⟨e, b', rfl, hb⟩
    rw [e]
    exact forIn_inv I n turn done k (i + 1) b' (by exact linn [_, _, _] [] (.a (.a (.v 0) (.c 1)) (.v 1)) (.v 2) (.e (-1) (.a (.v 0) (.a (.v 1) (.c 1))) (.v 2) .n) (by kernel_rfl) hi) hb
theorem joined_nil (bs : List (List UInt8)) : Builtin.Bytes.joined #[] (bs.map List.toArray) = bs.flatten.toArray := by
  unfold Builtin.Bytes.joined
  have : ∀ (bs : List (List UInt8)) (k : Nat) (a : Array UInt8), ((bs.map List.toArray).zipIdx k).foldl (fun out (x : Array UInt8 × Nat) => (if x.2 > 0 then out ++ (#[] : Array UInt8) else out) ++ x.1) a = a ++ bs.flatten.toArray := by
    intro bs
    induction bs with
    | nil => intro k a; simp
    | cons b bs ih =>
      intro k a
      rw [List.map_cons, List.zipIdx_cons, List.foldl_cons, ih]
      simp
  have h := this bs 0 #[]
  simpa using h
theorem Bys.at {vs : List Value} {bs : List (List UInt8)} (h : Bys vs bs) : ∀ {i : Nat}, i < bs.length → ∃ b t, vs[i]? = some (.bytes b.toArray t) ∧ bs[i]? = some b := by
  induction h with
  | nil => intro i hi; exact absurd hi (Nat.not_lt_zero _)
  | cons c u _ ih =>
    intro i hi
    cases i with
    | zero => exact ⟨c, u, rfl, rfl⟩
    | succ i => exact ih (Nat.lt_of_succ_lt_succ hi)
open Builtin in
theorem call_join {D : Addr} {its : List Value} {n : Nat} {bs : List (List UInt8)} {t : Tok} {Q : Value → Shared → Prop} (ho : s.heap.get? D = some { cls := .type "list", data := .seq its.toArray n }) (hb : Bys its bs) (hne : its ≠ []) (hsz : bs.flatten.length ≤ 16777216)
    (h : ∀ t' k, Q (.bytes bs.flatten.toArray t') { s with toks := k }) : wpAny (model prog w) A (call (.builtin "bytes.join") [.bytes #[] t, .ref D]) Q E s := by
  refine wpAny_call_entry slot_join (typeIs_bytes s #[] t) entry_join ?_ (args_join _ _)
  show wpAny _ _ (Bytes.joinItems (.ref D) >>= _) _ _ s
  refine wpAny_bind ?_
  unfold Bytes.joinItems
  refine wpAny_bind (wpAny_typeOf ⟨_, ho, rfl⟩ ?_)
  show wpAny _ _ (if (Value.type "list" == Value.type "list" || Value.type "list" == Value.type "tuple") = true then pure (Value.ref D) else _) _ _ s
  rw [if_pos (by decide)]
  refine wpAny_pure ?_
  refine wpAny_bind (wpAny_seqItems ho rfl ?_)
  show wpAny _ _ (match its.toArray with | #[x] => _ | _ => _) _ _ s
  cases hb with
  | nil => exact absurd rfl hne
  | cons b u hb =>
    cases hb with
    | nil =>
      refine wpAny_bind (wpAny_typeOf (typeIs_bytes s b.toArray u) ?_)
      show wpAny _ _ (if (Value.type "bytes" == Value.type "bytes") = true then _ else _) _ _ s
      rw [if_pos (by decide)]
      refine wpAny_bind (wpAny_rule (wpAny_pure ⟨_, rfl, ?_⟩))
      have := h u s.toks
      have e : ([b] : List (List UInt8)).flatten = b := by simp
      rw [e] at this
      exact this
    | cons c v hb =>
      have hb : Bys (.bytes b.toArray u :: .bytes c.toArray v :: _) (b :: c :: _) := .cons b u (.cons c v hb)
      show wpAny _ _ (forIn _ _ _ >>= _) _ _ s
      generalize hbs : b :: c :: _ = bs at hb hsz h
      generalize (Value.bytes b.toArray u :: Value.bytes c.toArray v :: _ : List Value) = its at hb ho ⊢
      refine wpAny_bind ?_
      rw [Std.Legacy.Range.forIn_eq_forIn_range']
      refine forIn_inv (JoinInv bs) bs.length ?_ ?_ _ 0 _ ?_ ⟨by simp, fun p hp => nomatch hp⟩
      · rintro i ⟨parts, taken⟩ hi ⟨h1, h2⟩
        refine wpAny_bind (wpAny_seqItems ho rfl ?_)
        obtain ⟨b, u, hv, hbi⟩ := hb.at hi
        have hx : its.toArray.getD i Value.none = .bytes b.toArray u := by
          simp [Array.getD_eq_getD_getElem?, hv]
        dsimp only
        rw [hx]
        have hno : (Bytes.Kind.bytes == Bytes.Kind.bytearray || taken.any fun x => x.1.onHeap) = false := by
          rw [Bool.or_eq_false_iff]
          refine ⟨rfl, ?_⟩
          rw [List.any_eq_false]
          intro p hp
          obtain ⟨_, b, t, e⟩ := h2 p hp
          rw [e]
          exact Bool.false_ne_true
        rw [hno, if_neg Bool.false_ne_true, take_quiet]
        refine wpAny_bind (wpAny_holding (wpAny_pure ?_))
        refine wpAny_bind (wpAny_seqItems ho rfl ?_)
        have hz : ((its.toArray.size != its.toArray.size) = true) = False := by simp
        show wpAny _ _ (if (its.toArray.size != its.toArray.size) = true then _ else _) _ _ s
        rw [if_neg (by simp)]
        refine wpAny_pure ⟨rfl, _, rfl, ?_, ?_⟩
        · show (parts.push b.toArray).toList = _
          rw [Array.toList_push, h1, List.take_add_one, hbi]
          simp
        · intro p hp
          rcases List.mem_append.mp hp with hp | hp
          · exact h2 p hp
          · rw [List.mem_singleton.mp hp]
            exact ⟨rfl, _, u, rfl⟩
      · rintro ⟨parts, taken⟩ ⟨h1, h2⟩
        rw [List.take_of_length_le (Nat.le_refl _)] at h1
        dsimp only
        show wpAny _ _ (if Bytes.tooLong _ = true then _ else _) _ _ s
        have hl : Bytes.tooLong (Array.foldl (fun x1 x2 => x1 + x2.size) ((#[] : Array UInt8).size * (parts.size - 1)) parts) = false := by
          refine KBy.tooLong_not ?_
          rw [← Array.foldl_toList, h1]
          have : ∀ (l : List (List UInt8)) (k : Nat), (l.map List.toArray).foldl (fun x1 x2 => x1 + x2.size) k = k + l.flatten.length := by
            intro l
            induction l with
            | nil => intro k; simp
            | cons x l ih => intro k; rw [List.map_cons, List.foldl_cons, ih]; simp; exact linn [_, _, _] [] (.a (.a (.v 0) (.v 1)) (.v 2)) (.a (.v 0) (.a (.v 1) (.v 2))) .n (by kernel_rfl)
          rw [this]
          show 0 * _ + _ ≤ _
          exact Nat.not_lt.mp (fun u9 => lin [_, _] [] (.l 1 (.a (.c 16777216) (.c 1)) (.a (.m 0 (.v 1)) (.v 0)) (.l 1 (.v 0) (.c 16777216) .n)) (by kernel_rfl) u9 hsz)
        rw [hl, if_neg Bool.false_ne_true]
        show wpAny _ _ (mkBytes (Bytes.joined #[] parts.toList) >>= _) _ _ s
        rw [h1, joined_nil]
        refine wpAny_bind (wpAny_mkBytes ?_ (by rw [sizeLine_eq]; simpa using hsz))
        refine wpAny_bind (wpAny_holding (wpAny_point ?_))
        refine wpAny_bind (join_go _ ?_ _ fun p hp => (h2 p hp).1)
        exact wpAny_pure ⟨_, rfl, h _ _⟩
      · show 0 + (its.toArray.size - 0 + 1 - 1) / 1 = bs.length
        rw [List.size_toArray, hb.length]
        exact Nat.le_antisymm (Nat.not_lt.mp (fun u9 => lin [_, _, _, _, _] [] (.l 1 (.a (.v 0) (.c 1)) (.a (.c 0) (.v 1)) (.e 1 (.a (.m 1 (.v 1)) (.v 2)) (.v 3) (.e 1 (.a (.v 3) (.c 1)) (.a (.v 4) (.c 1)) (.e 1 (.a (.v 4) (.c 0)) (.v 0) .n)))) (by kernel_rfl) u9 (Nat.div_add_mod _ _) (Nat.sub_add_cancel (Nat.not_lt.mp (fun u9 => lin [_, _] [] (.l 1 (.a (.a (.v 0) (.c 1)) (.c 1)) (.c 1) (.e (-1) (.a (.v 0) (.c 0)) (.v 1) .n)) (by kernel_rfl) u9 (Nat.sub_add_cancel (Nat.not_lt.mp (fun u9 => lin [_] [] (.l 1 (.a (.v 0) (.c 1)) (.c 0) .n) (by kernel_rfl) u9)))))) (Nat.sub_add_cancel (Nat.not_lt.mp (fun u9 => lin [_] [] (.l 1 (.a (.v 0) (.c 1)) (.c 0) .n) (by kernel_rfl) u9))))) (Nat.not_lt.mp (fun u9 => lin [_, _, _, _, _] [] (.l 1 (.a (.a (.c 0) (.v 0)) (.c 1)) (.v 1) (.e (-1) (.a (.m 1 (.v 0)) (.v 2)) (.v 3) (.l 1 (.a (.v 2) (.c 1)) (.c 1) (.e (-1) (.a (.v 3) (.c 1)) (.a (.v 4) (.c 1)) (.e (-1) (.a (.v 4) (.c 0)) (.v 1) .n))))) (by kernel_rfl) u9 (Nat.div_add_mod _ _) (Nat.mod_lt _ (by decide)) (Nat.sub_add_cancel (Nat.not_lt.mp (fun u9 => lin [_, _] [] (.l 1 (.a (.a (.v 0) (.c 1)) (.c 1)) (.c 1) (.e (-1) (.a (.v 0) (.c 0)) (.v 1) .n)) (by kernel_rfl) u9 (Nat.sub_add_cancel (Nat.not_lt.mp (fun u9 => lin [_] [] (.l 1 (.a (.v 0) (.c 1)) (.c 0) .n) (by kernel_rfl) u9)))))) (Nat.sub_add_cancel (Nat.not_lt.mp (fun u9 => lin [_] [] (.l 1 (.a (.v 0) (.c 1)) (.c 0) .n) (by kernel_rfl) u9)))))
end
end
section
/-- the compiled pattern, as it lies in the heap -/
structure PatAt (h : Heap) (P : Addr) : Prop where
  ex : ∃ oP fs oC its n, h.get? P = some oP ∧ oP.cls = .type "re.Pattern" ∧ oP.dict = none ∧ oP.data = .fields fs ∧ (∃ t, fs.getD 6 .none = .int 1 t) ∧ (∃ t, fs.getD 2 .none = .int 0 t) ∧
    (∃ C, fs.getD 5 .none = .ref C ∧ h.get? C = some oC) ∧ oC.data = .seq its n ∧ (its.map Builtin.Re.reRawOf).map (·.toNat) = qcode
theorem PatAt.mono {h h' : Heap} {P : Addr} (z : PatAt h P) (k : ∀ b o, h.get? b = some o → h'.get? b = some o) : PatAt h' P := by
  obtain ⟨oP, fs, oC, its, n, h1, h2, h2', h3, h4, h5, ⟨C, h6, h7⟩, h8, h9⟩ := z.ex
  exact ⟨oP, fs, oC, its, n, k _ _ h1, h2, h2', h3, h4, h5, ⟨C, h6, k _ _ h7⟩, h8, h9⟩
section
variable {prog : Program} {w : World} {A : Around} {E : Value → Shared → Prop} {s : Shared} {P : Addr}
open Builtin Builtin.Re
theorem text_eq {b : Array UInt8} {u : Tok} : reTextOf (.bytes b u) = pure (b.map (·.toNat), 1) := by
  show (Bytes.bufferQuiet? "_sre" (.bytes b u) >>= _) = _
  rw [KBy.quiet_eq]
  rfl
theorem noColl {b : Array UInt8} {u : Tok} : reNoCollectionInside (.bytes b u) 1 = pure () := by
  show (isInstance (.bytes b u) (.type "bytes") >>= _) = _
  rw [KBy.isInstance_eq]
  rfl
noncomputable abbrev tgt (P : Addr) (b : Array UInt8) (u : Tok) : ReTarget := { pattern := .ref P, string := .bytes b u, code := qcode, text := b.map (·.toNat), kind := 1, groups := 0, pos := 0, lim := (b.map (·.toNat)).size }
theorem whole {b : Array UInt8} {u : Tok} {Q : ReTarget → Shared → Prop} (z : PatAt s.heap P) (h : Q (tgt P b u) s) : wpAny (model prog w) A (reWholeTarget (.ref P) (.bytes b u)) Q E s := by
  obtain ⟨oP, fs, oC, its, n, h1, h2, _, h3, ⟨t6, h4⟩, ⟨t2, h5⟩, ⟨C, h6, h7⟩, h8, h9⟩ := z.ex
  unfold reWholeTarget
  refine wpAny_bind (wpAny_fieldsOf h1 h3 ?_)
  rw [text_eq, h4, h5, h6]
  have e1 : (reRawNat (Value.int 1 t6) == 0 && 1 == 1) = false := rfl
  have e2 : (reRawNat (Value.int 1 t6) == 1 && 1 == 0) = false := rfl
  simp only [pure_bind, e1, e2, Bool.false_eq_true, if_false, noColl]
  unfold reRawItems
  refine wpAny_bind (wpAny_bind (wpAny_seqItems h7 h8 (wpAny_pure ?_)))
  refine wpAny_pure ?_
  show Q { pattern := .ref P, string := .bytes b u, code := ((its.map reRawOf).map (·.toNat)), text := b.map (·.toNat), kind := 1, groups := 0, pos := 0, lim := (b.map (·.toNat)).size } s
  rw [h9]
  exact h
theorem slice_eq (b : List UInt8) (i j : Nat) : reSlice (b.toArray.map (·.toNat)) 1 i j = mkBytes ((b.drop i).take (j - i)).toArray := by
  show mkBytes _ = _
  congr 1
  apply Array.toList_inj.mp
  simp only [Array.toList_map, List.map_toArray, List.extract_toArray, List.extract_eq_take_drop]
  rw [← List.map_drop, ← List.map_take, List.map_map]
  have : (Nat.toUInt8 ∘ fun x : UInt8 => x.toNat) = _root_.id := by funext x; simp
  rw [this, List.map_id]
theorem lit_eq {b : Array UInt8} {u : Tok} : reLiteralCannotBeTurned (.bytes b u) = pure () := by
  have e : asStr? (.bytes b u) = pure none := rfl
  unfold reLiteralCannotBeTurned
  rw [e, KBy.isInstance_eq]
  rfl
theorem tx_len (ps : List Pce) : (tx ps).length = (bB ps).length := List.length_map ..
theorem split_lab : ∀ ps : List Pce, (∀ b ∈ ps, isLab b = false) ∨ ∃ bs i rest, ps = bs ++ .lab i :: rest ∧ ∀ b ∈ bs, isLab b = false
  | [] => .inl fun _ h => nomatch h
  | .lab i :: r => .inr ⟨[], i, r, rfl, fun _ h => nomatch h⟩
  | .op :: r => (split_lab r).elim (fun h => .inl fun b hb => (List.mem_cons.mp hb).elim (fun e => e ▸ rfl) (h b)) fun ⟨bs, i, rest, e, h⟩ => .inr ⟨.op :: bs, i, rest, by rw [e]; rfl, fun b hb => (List.mem_cons.mp hb).elim (fun e => e ▸ rfl) (h b)⟩
  | .cl :: r => (split_lab r).elim (fun h => .inl fun b hb => (List.mem_cons.mp hb).elim (fun e => e ▸ rfl) (h b)) fun ⟨bs, i, rest, e, h⟩ => .inr ⟨.cl :: bs, i, rest, by rw [e]; rfl, fun b hb => (List.mem_cons.mp hb).elim (fun e => e ▸ rfl) (h b)⟩
theorem brk_all {bs : List Pce} (h : ∀ b ∈ bs, isLab b = false) : brk bs = bs := by
  unfold brk
  rw [List.filter_eq_self]
  intro b hb
  rw [h b hb]; rfl
theorem brk_le : ∀ ps : List Pce, (bB (brk ps)).length ≤ (bB ps).length
  | [] => Nat.le_refl _
  | p :: r => by
    have ih := brk_le r
    have e : bB (p :: r) = pB p ++ bB r := rfl
    rw [e, List.length_append]
    by_cases h : isLab p = true
    · have : brk (p :: r) = brk r := by unfold brk; rw [List.filter_cons_of_neg]; simp [h]
      rw [this]; exact Nat.not_lt.mp (fun u9 => lin [_, _, _] [] (.l 1 (.a (.a (.v 2) (.v 1)) (.c 1)) (.v 0) (.l 1 (.v 0) (.v 1) .n)) (by kernel_rfl) u9 ih)
    · have : brk (p :: r) = p :: brk r := by unfold brk; rw [List.filter_cons_of_pos]; simp [h]
      rw [this, show bB (p :: brk r) = pB p ++ bB (brk r) from rfl, List.length_append]; exact Nat.not_lt.mp (fun u9 => lin [_, _, _] [] (.l 1 (.a (.a (.v 2) (.v 1)) (.c 1)) (.a (.v 2) (.v 0)) (.l 1 (.v 0) (.v 1) .n)) (by kernel_rfl) u9 ih)
theorem text_list (ps : List Pce) : ((bB ps).toArray.map (·.toNat)) = (tx ps).toArray := by simp [tx]
theorem push_upd {xs : List Value} {c : Nat} {v : Value} : Obj.mapSeq (·.push v) (oLst xs c) = oLst (xs ++ [v]) (c + 1) := by
  rw [show (oLst xs c) = { cls := .type "list", dict := none, data := .seq xs.toArray c, slots := #[] } from rfl, mapSeq_push]
  simp
variable {R : Result → Shared → Prop} {h₀ : Heap} {L Lp : Addr} {m : Str → Option Value} {news₀ : Led}
/-- a push onto the list of what is found -/
theorem push_at {M : Model} {A : Around} {E : Value → Shared → Prop} {s : Shared} {xs : List Value} {c : Nat} {v : Value} {Q : Unit → Shared → Prop} (F : Fr h₀ L s.heap m) (N : News h₀ L s.heap ((Lp, oLst xs c) :: news₀)) (hne : ∀ p ∈ news₀, p.1 ≠ Lp) (hz : xs.length ≤ 10000)
    (h : ∀ h', Fr h₀ L h' m → News h₀ L h' ((Lp, oLst (xs ++ [v]) (c + 1)) :: news₀) → Q () { s with heap := h' }) : wpAny M A (updateSeq Lp (·.push v)) Q E s := by
  have z := N _ (.head _)
  have hs : Heap.SameBut Lp s.heap (s.heap.update Lp (Obj.mapSeq (·.push v))) := Heap.SameBut.update ..
  refine wpAny_updateSeq z.1 rfl (h _ (F.change hs z.2.1 z.2.2) (news_put N (.head _) (bes_skip (bes_tail hne)) hs ?_)) (by rw [sizeLine_eq, List.size_toArray]; exact Nat.not_lt.mp (fun u9 => lin [_] [] (.l 1 (.a (.c 16777216) (.c 1)) (.v 0) (.l 1 (.v 0) (.c 10000) .n)) (by kernel_rfl) u9 hz)) (by rw [sizeLine_eq, Array.size_push, List.size_toArray]; exact Nat.not_lt.mp (fun u9 => lin [_] [] (.l 1 (.a (.c (16777216 + 1)) (.c 1)) (.a (.v 0) (.c 1)) (.l 1 (.v 0) (.c 10000) .n)) (by kernel_rfl) u9 hz))
  rw [Heap.get?_update_self _ z.1 (by rw [push_upd]; rfl), push_upd]
theorem labs_pos : ∀ i : Fin 6, 0 < (labB i).length := by decide
theorem sub_loop (ps : List Pce) (t u : Tok) (hz : ps.length ≤ 1000) (hzb : (bB ps).length ≤ 10000) : ∀ (k : Nat) (ps₁ ps₂ : List Pce) (its : List Value) (bs : List (List UInt8)) (c n : Nat) (s : Shared),
    ps₂.length < k → ps = ps₁ ++ ps₂ → Bys its bs → bs.flatten = bB (brk ps₁) → its.length ≤ 2 * ps₁.length → Fr h₀ L s.heap m → News h₀ L s.heap ((Lp, oLst its c) :: news₀) → (∀ p ∈ news₀, p.1 ≠ Lp) → PatAt h₀ P →
    (∀ h' tk' t', Fr h₀ L h' m → News h₀ L h' news₀ → R (.ok (.ret (.bytes (bB (brk ps)).toArray t'))) { s with heap := h', toks := tk' }) →
    codeAny (model prog w) A (.builtin "re.Pattern.sub.loop" ⟨[.ref P, .bytes (bB ps).toArray u, .bytes #[] t, rawInt 0, rawInt 0, rawInt n, rawInt (bB ps₁).length, rawInt (bB ps₁).length, .bool false, .ref Lp, .bool false], []⟩) R s := by
  intro k
  induction k with
  | zero => intro ps₁ ps₂ its bs c n s hk; lia
  | succ k ih =>
    intro ps₁ ps₂ its bs c n s hk hps hb hf hl F N hne z hR
    have hln : ps₁.length + ps₂.length = ps.length := by rw [hps, List.length_append]
    refine codeAny_builtin entry_subloop ?_
    rw [Around.under_plainId plain_subloop]
    show wpAny _ A.in1 (reWholeTarget (.ref P) (.bytes (bB ps).toArray u) >>= _) _ _ s
    refine wpAny_bind (whole (z.mono F.keep) ?_)
    show wpAny _ A.in1 (reLiteralCannotBeTurned (.bytes #[] t) >>= _) _ _ s
    rw [lit_eq]
    refine wpAny_bind (wpAny_pure ?_)
    have hc0 : ((0 : Int) != 0 && decide ((n : Int) ≥ 0)) = false := rfl
    dsimp only
    rw [hc0, if_neg Bool.false_ne_true]
    unfold reNextFound
    refine wpAny_bind ?_
    have htx : ((bB ps).toArray.map (·.toNat)) = (tx ps₁ ++ tx ps₂).toArray := by rw [text_list, hps, tx_app]
    rcases split_lab ps₂ with hall | ⟨bs₂, i, rest, hps₂, hbs⟩
    · obtain ⟨K, mm, hK, e1, e2⟩ := search_none ps₂ (tx ps₁) false hall
      rw [tx_len, ← htx] at e1
      refine run_miss (by exact Nat.not_lt.mp (fun u9 => lin [_, _, _, _] [] (.l 1 (.a (.c 1000000) (.c 1)) (.v 3) (.l 2 (.v 0) (.c 1000) (.e 2 (.a (.v 1) (.v 2)) (.v 0) (.l 1 (.v 3) (.a (.m 2 (.v 2)) (.c 4)) .n)))) (by kernel_rfl) u9 hz hln hK)) e1 e2 ?_
      have hfin : ∀ its' bs' c' s', s'.gens = s.gens → s'.drawn = s.drawn → s'.os = s.os → Bys its' bs' → bs'.flatten = bB (brk ps) → its'.length ≤ 10000 → Fr h₀ L s'.heap m → News h₀ L s'.heap ((Lp, oLst its' c') :: news₀) →
          wpAny (model prog w) A.in1 (do
            let joiner ← reSlice ((bB ps).toArray.map (·.toNat)) 1 0 0
            let text ← if ((← seqItems? (.ref Lp)).getD #[]).isEmpty then pure joiner else call (.builtin "bytes.join") [joiner, .ref Lp]
            ret text) (fun fin s' => match fin with | .done f => R (.ok f) s' | .again c' => c'.quiet = true ∧ codeAny (model prog w) A c' R s') (fun e s' => R (.error e) s') s' := by
        intro its' bs' c' s' g1 g2 g3 hb' hf' hl' F' N'
        obtain ⟨hp', gens', drawn', toks', os'⟩ := s'
        dsimp only at g1 g2 g3 F' N'
        subst g1 g2 g3
        rw [slice_eq]
        refine wpAny_bind (wpAny_mkBytes ?_ (by rw [sizeLine_eq]; simp))
        have N'' := (N' _ (.head _)).1
        refine wpAny_bind (wpAny_seqItems N'' rfl ?_)
        have NN : News h₀ L hp' news₀ := fun p hp => N' p (.tail _ hp)
        by_cases hem : its' = []
        · subst hem
          cases hb'
          show wpAny _ _ (pure _ >>= _) _ _ _
          refine wpAny_bind (wpAny_pure (wpAny_pure ?_))
          have e : bB (brk ps) = [] := hf'.symm
          have := hR hp' (toks' + 1) toks' F' NN
          rw [e] at this
          exact this
        · have hne' : ((some its'.toArray).getD #[]).isEmpty = false := by
            cases its' with
            | nil => exact absurd rfl hem
            | cons a l => rfl
          rw [hne', if_neg Bool.false_ne_true]
          have e0 : (List.take (0 - 0) (List.drop 0 (bB ps))).toArray = #[] := rfl
          rw [e0]
          refine wpAny_bind (call_join N'' hb' hem (by
            rw [hf']
            have := brk_le ps
            exact Nat.not_lt.mp (fun u9 => lin [_, _] [] (.l 1 (.a (.c 16777216) (.c 1)) (.v 1) (.l 1 (.v 0) (.c 10000) (.l 1 (.v 1) (.v 0) .n))) (by kernel_rfl) u9 hzb this)) fun t' k' => wpAny_pure ?_)
          rw [hf']
          exact hR _ _ _ F' NN
      show wpAny _ A.in1 (if (bB ps₁).length < ((bB ps).toArray.map (·.toNat)).size then _ else _) _ _ s
      have hszt : ((bB ps).toArray.map (·.toNat)).size = (bB ps).length := by simp
      have hbrk : brk ps₂ = ps₂ := brk_all hall
      have hcat : bB ps = bB ps₁ ++ bB ps₂ := by rw [hps, bB_app]
      have hflat : bB (brk ps) = bB (brk ps₁) ++ bB ps₂ := by rw [hps, brk_app, bB_app, hbrk]
      by_cases hlt : (bB ps₁).length < ((bB ps).toArray.map (·.toNat)).size
      · rw [if_pos hlt, slice_eq]
        refine wpAny_bind (wpAny_mkBytes ?_ (by rw [sizeLine_eq]; simp; exact Nat.not_lt.mp (fun u9 => lin [_, _] [] (.l 1 (.a (.a (.c 16777216) (.v 1)) (.c 1)) (.v 0) (.l 1 (.v 0) (.c 10000) .n)) (by kernel_rfl) u9 hzb)))
        refine wpAny_bind (push_at F N hne (by exact Nat.not_lt.mp (fun u9 => lin [_, _, _, _] [] (.l 1 (.a (.c 10000) (.c 1)) (.v 1) (.l 2 (.v 0) (.c 1000) (.l 1 (.v 1) (.m 2 (.v 2)) (.e 2 (.a (.v 2) (.v 3)) (.v 0) .n)))) (by kernel_rfl) u9 hz hl hln)) fun h' F' N' => ?_)
        refine hfin _ _ _ _ rfl rfl rfl (hb.snoc _ _) ?_ (by rw [List.length_append, List.length_singleton]; exact Nat.not_lt.mp (fun u9 => lin [_, _, _, _] [] (.l 1 (.a (.c 10000) (.c 1)) (.a (.v 1) (.c 1)) (.l 2 (.v 0) (.c 1000) (.l 1 (.v 1) (.m 2 (.v 2)) (.e 2 (.a (.v 2) (.v 3)) (.v 0) .n)))) (by kernel_rfl) u9 hz hl hln)) F' N'
        rw [List.flatten_append, hf, hflat]
        show bB (brk ps₁) ++ [List.take (((bB ps).toArray.map (·.toNat)).size - (bB ps₁).length) (List.drop (bB ps₁).length (bB ps))].flatten = _
        rw [hszt, hcat]
        simp
      · rw [if_neg hlt]
        have he : bB ps₂ = [] := by
          have : (bB ps).length = (bB ps₁).length + (bB ps₂).length := by rw [hcat, List.length_append]
          exact List.length_eq_zero_iff.mp (by exact Nat.le_antisymm (Nat.not_lt.mp (fun u9 => lin [_, _, _, _] [] (.l 1 (.a (.c 0) (.c 1)) (.v 3) (.e (-1) (.v 0) (.v 1) (.l 1 (.v 0) (.v 2) (.e (-1) (.v 1) (.a (.v 2) (.v 3)) .n)))) (by kernel_rfl) u9 hszt (Nat.not_lt.mp hlt) this)) (Nat.not_lt.mp (fun u9 => lin [_] [] (.l 1 (.a (.v 0) (.c 1)) (.c 0) .n) (by kernel_rfl) u9)))
        exact hfin _ _ _ _ rfl rfl rfl hb (by rw [hf, hflat, he, List.append_nil]) (by exact Nat.not_lt.mp (fun u9 => lin [_, _, _, _] [] (.l 1 (.a (.c 10000) (.c 1)) (.v 1) (.l 2 (.v 0) (.c 1000) (.l 1 (.v 1) (.m 2 (.v 2)) (.e 2 (.a (.v 2) (.v 3)) (.v 0) .n)))) (by kernel_rfl) u9 hz hl hln)) F N
    · obtain ⟨K, sn₂, ad₂, f₂, hK, e1⟩ := search_lab i bs₂ (tx ps₁) (tx rest) false hbs
      have htx2 : tx ps₁ ++ (tx bs₂ ++ (tx [.lab i] ++ tx rest)) = tx ps₁ ++ tx ps₂ := by
        rw [hps₂, tx_app, show (Pce.lab i :: rest) = [.lab i] ++ rest from rfl, tx_app]
      rw [htx2, ← htx, tx_len] at e1
      refine run_hit (by rw [hps₂, List.length_append] at hln; exact Nat.not_lt.mp (fun u9 => lin [_, _, _, _, _] [] (.l 1 (.a (.c 1000000) (.c 1)) (.v 4) (.l 2 (.v 0) (.c 1000) (.e 2 (.a (.v 1) (.a (.v 2) (.v 3))) (.v 0) (.l 1 (.v 4) (.a (.m 2 (.v 2)) (.c 60)) .n)))) (by kernel_rfl) u9 hz hln hK)) e1 rfl ?_
      have hbs' : (bB bs₂).length = bs₂.length := by rw [← tx_len]; exact bs_len hbs
      have hcat : bB ps = bB ps₁ ++ (bB bs₂ ++ (labB i ++ bB rest)) := by
        rw [hps, hps₂, bB_app, bB_app, show (Pce.lab i :: rest) = [.lab i] ++ rest from rfl, bB_app, show bB [Pce.lab i] = labB i by simp [bB, pB]]
      have hnext : bB (ps₁ ++ bs₂ ++ [.lab i]) = bB ps₁ ++ bB bs₂ ++ labB i := by
        rw [bB_app, bB_app, show bB [Pce.lab i] = labB i by simp [bB, pB]]
      have hstart : (bB (ps₁ ++ bs₂ ++ [.lab i])).length = (bB ps₁).length + bs₂.length + (labB i).length := by
        rw [hnext, List.length_append, List.length_append, hbs']
      have hbr : brk (ps₁ ++ bs₂ ++ [.lab i]) = brk ps₁ ++ bs₂ := by
        rw [brk_app, brk_app, brk_all hbs]
        simp [brk, isLab]
      have hlp : 0 < (labB i).length := labs_pos i
      have hgo : ∀ its' bs' c' h' tk, Bys its' bs' → bs'.flatten = bB (brk ps₁) ++ bB bs₂ → its'.length ≤ 2 * ps₁.length + 2 → Fr h₀ L h' m → News h₀ L h' ((Lp, oLst its' c') :: news₀) →
          codeAny (model prog w) A (.builtin "re.Pattern.sub.loop" ⟨[.ref P, .bytes (bB ps).toArray u, .bytes #[] t, rawInt 0, rawInt 0, rawInt ((n : Int) + 1), rawInt (((bB ps₁).length + bs₂.length + (labB i).length : Nat) : Int), rawInt (((bB ps₁).length + bs₂.length + (labB i).length : Nat) : Int), .bool ((bB ps₁).length + bs₂.length + (labB i).length == (bB ps₁).length + bs₂.length), .ref Lp, .bool false], []⟩) R { s with heap := h', toks := tk } := by
        intro its' bs' c' h' tk hb' hf' hl' F' N'
        have e0 : ((bB ps₁).length + bs₂.length + (labB i).length == (bB ps₁).length + bs₂.length) = false := by rw [beq_eq_false_iff_ne]; exact fun u9 => lin [_, _, _] [] (.e 1 (.a (.a (.v 1) (.v 2)) (.v 0)) (.a (.v 1) (.v 2)) (.l 1 (.a (.c 0) (.c 1)) (.v 0) .n)) (by kernel_rfl) u9 hlp
        rw [e0, ← hstart]
        have := ih (ps₁ ++ bs₂ ++ [.lab i]) rest its' bs' c' (n + 1) { s with heap := h', toks := tk } (by rw [hps₂, List.length_append, List.length_cons] at hk; exact Nat.not_le.mp (fun u9 => lin [_, _, _] [] (.l 1 (.v 2) (.v 1) (.l 1 (.a (.a (.v 0) (.a (.v 1) (.c 1))) (.c 1)) (.a (.v 2) (.c 1)) .n)) (by kernel_rfl) u9 hk)) (by rw [hps, hps₂]; simp) hb' (by rw [hf', hbr, bB_app]) (by simp only [List.length_append, List.length_singleton]; exact Nat.not_lt.mp (fun u9 => lin [_, _, _] [] (.l 1 (.a (.m 2 (.a (.a (.v 0) (.v 2)) (.c 1))) (.c 1)) (.v 1) (.l 1 (.v 1) (.a (.m 2 (.v 0)) (.c 2)) .n)) (by kernel_rfl) u9 hl')) F' N' hne z (fun h'' tk'' t'' F'' N'' => hR h'' tk'' t'' F'' N'')
        exact this
      show wpAny _ A.in1 (if (bB ps₁).length < (bB ps₁).length + bs₂.length then _ else _) _ _ s
      by_cases hlt : (bB ps₁).length < (bB ps₁).length + bs₂.length
      · rw [if_pos hlt]
        show wpAny _ A.in1 (reSlice ((bB ps).toArray.map (·.toNat)) 1 (bB ps₁).length ((bB ps₁).length + bs₂.length) >>= _) _ _ s
        rw [slice_eq]
        refine wpAny_bind (wpAny_mkBytes ?_ (by rw [sizeLine_eq]; simp; exact Nat.not_lt.mp (fun u9 => lin [_, _, _] [] (.l 1 (.a (.c 16777216) (.c 1)) (.v 1) (.l 1 (.v 0) (.c 10000) (.l 1 (.v 1) (.v 2) (.l 1 (.v 2) (.v 0) .n)))) (by kernel_rfl) u9 hzb (Nat.min_le_right _ _) (Nat.sub_le _ _))))
        refine wpAny_bind (push_at F N hne (by exact Nat.not_lt.mp (fun u9 => lin [_, _, _, _] [] (.l 1 (.a (.c 10000) (.c 1)) (.v 1) (.l 2 (.v 0) (.c 1000) (.l 1 (.v 1) (.m 2 (.v 2)) (.e 2 (.a (.v 2) (.v 3)) (.v 0) .n)))) (by kernel_rfl) u9 hz hl hln)) fun h' F' N' => ?_)
        show wpAny _ A.in1 (updateSeq Lp (·.push (.bytes #[] t)) >>= _) _ _ _
        refine wpAny_bind (push_at F' N' hne (by rw [List.length_append, List.length_singleton]; exact Nat.not_lt.mp (fun u9 => lin [_, _, _, _] [] (.l 1 (.a (.c 10000) (.c 1)) (.a (.v 1) (.c 1)) (.l 2 (.v 0) (.c 1000) (.l 1 (.v 1) (.m 2 (.v 2)) (.e 2 (.a (.v 2) (.v 3)) (.v 0) .n)))) (by kernel_rfl) u9 hz hl hln)) fun h'' F'' N'' => ?_)
        refine wpAny_pure ⟨plainId_quiet plain_subloop _, ?_⟩
        refine hgo _ _ _ _ _ ((hb.snoc _ _).snoc [] t) ?_ (by simp only [List.length_append, List.length_singleton]; exact Nat.not_lt.mp (fun u9 => lin [_, _] [] (.l 1 (.a (.a (.m 2 (.v 1)) (.c 2)) (.c 1)) (.a (.a (.v 0) (.c 1)) (.c 1)) (.l 1 (.v 0) (.m 2 (.v 1)) .n)) (by kernel_rfl) u9 hl)) F'' N''
        rw [List.flatten_append, List.flatten_append, hf, hcat]
        have : (bB ps₁).length + bs₂.length - (bB ps₁).length = (bB bs₂).length := by exact linn [_, _, _, _] [] (.v 3) (.v 0) (.e 1 (.v 0) (.v 1) (.e (-1) (.a (.v 3) (.v 2)) (.a (.v 2) (.v 1)) .n)) (by kernel_rfl) hbs' (Nat.sub_add_cancel (Nat.not_lt.mp (fun u9 => lin [_, _] [] (.l 1 (.a (.a (.v 1) (.v 0)) (.c 1)) (.v 1) (.l 1 (.a (.v 1) (.c 1)) (.a (.v 1) (.v 0)) .n)) (by kernel_rfl) u9 hlt)))
        simp [this]
      · rw [if_neg hlt]
        show wpAny _ A.in1 (updateSeq Lp (·.push (.bytes #[] t)) >>= _) _ _ _
        refine wpAny_bind (push_at F N hne (by exact Nat.not_lt.mp (fun u9 => lin [_, _, _, _] [] (.l 1 (.a (.c 10000) (.c 1)) (.v 1) (.l 2 (.v 0) (.c 1000) (.l 1 (.v 1) (.m 2 (.v 2)) (.e 2 (.a (.v 2) (.v 3)) (.v 0) .n)))) (by kernel_rfl) u9 hz hl hln)) fun h'' F'' N'' => ?_)
        refine wpAny_pure ⟨plainId_quiet plain_subloop _, ?_⟩
        refine hgo _ _ _ _ _ (hb.snoc [] t) ?_ (by simp only [List.length_append, List.length_singleton]; exact Nat.not_lt.mp (fun u9 => lin [_, _] [] (.l 1 (.a (.a (.m 2 (.v 1)) (.c 2)) (.c 1)) (.a (.v 0) (.c 1)) (.l 1 (.v 0) (.m 2 (.v 1)) .n)) (by kernel_rfl) u9 hl)) F'' N''
        have he : bB bs₂ = [] := List.length_eq_zero_iff.mp (by exact Nat.le_antisymm (Nat.not_lt.mp (fun u9 => lin [_, _, _] [] (.l 1 (.a (.c 0) (.c 1)) (.v 0) (.e 1 (.v 0) (.v 1) (.l 1 (.a (.v 2) (.v 1)) (.v 2) .n))) (by kernel_rfl) u9 hbs' (Nat.not_lt.mp hlt))) (Nat.not_lt.mp (fun u9 => lin [_, _] [] (.l 1 (.a (.v 0) (.c 1)) (.c 0) (.e (-1) (.v 0) (.v 1) .n)) (by kernel_rfl) u9 hbs')))
        rw [List.flatten_append, hf, he]
        simp
end
end
section
section
variable {prog : Program} {w : World} {A : Around} {E : Value → Shared → Prop} {s : Shared} {P : Addr} {h₀ : Heap} {L : Addr} {m : Str → Option Value} {news : Led}
open Builtin Builtin.Re
theorem named_eq (a b : Value) : reNamed "re.Pattern.sub" "sub" ["repl", "string", "count"] 2 [a, b] [] = pure [some a, some b, none] := rfl
theorem call_sub {ps : List Pce} {t u : Tok} {Q : Value → Shared → Prop} (F : Fr h₀ L s.heap m) (N : News h₀ L s.heap news) (z : PatAt h₀ P) (hz : ps.length ≤ 1000) (hzb : (bB ps).length ≤ 10000)
    (h : ∀ h' tk' t', Fr h₀ L h' m → News h₀ L h' news → Q (.bytes (bB (brk ps)).toArray t') { s with heap := h', toks := tk' }) :
    wpAny (model prog w) A (call (.builtin "re.Pattern.sub") [.ref P, .bytes #[] t, .bytes (bB ps).toArray u]) Q E s := by
  have hT : s.TypeIs (.ref P) "re.Pattern" := by
    obtain ⟨oP, fs, oC, its, n, h1, h2, _⟩ := (z.mono F.keep).ex
    exact ⟨oP, h1, h2⟩
  refine wpAny_call (codeAny_call_builtin slot_sub.plain entry_sub (slot_sub.check _ _ _ _ _ _ _ _ hT (args_sub _ _ _) ?_))
  show wpAny _ A.in1 (reNamed "re.Pattern.sub" "sub" ["repl", "string", "count"] 2 [.bytes #[] t, .bytes (bB ps).toArray u] [] >>= _) _ _ s
  have e1 : asStr? (.bytes #[] t) = pure none := rfl
  have e2 : (!(#[] : Array UInt8).contains 92) = true := by simp
  have e3 : ((0 : Int) == 1) = false := rfl
  simp only [named_eq, pure_bind, KBy.special_eq call_look, e1, e2, e3, KBy.quiet_eq, Option.isSome_none, Bool.false_eq_true, if_false, if_true]
  refine wpAny_bind (wpAny_holding ?_)
  refine whole (z.mono F.keep) ?_
  refine wpAny_bind (newList_K F N fun Lp h' F' N' l1 => ?_)
  refine wpAny_pure ⟨plainId_quiet plain_subloop _, ?_⟩
  have := sub_loop (prog := prog) (w := w) (A := A) (R := fun r s' => match r with | .ok (.ret v) => Q v s' | .ok _ => False | .error e => E e s') (Lp := Lp) (news₀ := news) ps t u hz hzb (ps.length + 1) [] ps [] [] 0 0 { s with heap := h' } (Nat.lt_succ_self _) rfl .nil rfl (Nat.le_refl _) F' N' (fun p hp => Nat.ne_of_lt (l1 p hp)) z (fun h'' tk'' t'' F'' N'' => h h'' tk'' t'' F'' N'')
  exact this
end
end
section
section
variable {M : Model} {A : Around} {E : Value → Shared → Prop} {s : Shared} {h₀ : Heap} {L a : Addr} {m : Str → Option Value} {cn : Str} {cs : Scope} {ccd : Value} {cl : List (Str × Addr)}
  {x : Str} {v : Value} {Q : Unit → Shared → Prop} {news need : Led} {c : Addr} {o : Obj} {v₀ : Option Value}
theorem storeC_b (F : Fr h₀ L s.heap m) (N : News h₀ L s.heap news) (hc : cl.lookup x = some c) (hm : (c, o) ∈ news) (hb : Beside c need news) (hd : o.data = .cell v₀)
    (h : ∀ h' o', Fr h₀ L h' m → News h₀ L h' ((c, o') :: need) → o'.data = .cell (some v) → Q () { s with heap := h' })
    (hk : cs.kind = .function := by rfl) (hx : (envX cn cs L a ccd cl).kindOf x = some .cell := by rfl) : wpAny M A (storeName (envX cn cs L a ccd cl) x v) Q E s := by
  have hmem := N (c, o) hm
  refine wpAny_storeName_cell hk hx hc ⟨o, hmem.1, hd⟩ fun h' hv hs => ?_
  obtain ⟨o', ho', hd'⟩ := hv
  exact h h' o' (F.change hs hmem.2.1 hmem.2.2) (news_put N hm hb hs ho') hd'
end
section
variable {M : Model} {A : Around} {E : Value → Shared → Prop} {s : Shared} {h₀ : Heap} {L C c : Addr} {m : Str → Option Value} {news : Led} {o : Obj} {cl : List (Str × Addr)}
/-- a cell of the function, read in a comprehension -/
theorem compCell {sc : Scope} {env : Env} {n : Str} {pos : Pos} {v : Value} {Q : Value → Shared → Prop} (N : News h₀ L s.heap news) (hm : (c, o) ∈ news) (hd : o.data = .cell (some v)) (hk : (compEnvC sc cl C env).scope.kind = .function)
    (hl : (compEnvC sc cl C env).kindOf n = some .cell) (hc : cl.lookup n = some c) (h : Q v s) (hb : (n == ("__debug__" : Str)) = false) :
    wpAny M A (eval (.Name n pos) (compEnvC sc cl C env)) Q E s :=
  wpAny_Name (wpAny_loadName_cell hk hl hc ⟨o, (N _ hm).1, hd⟩ h) hb
theorem compLocal {sc : Scope} {env : Env} {n : Str} {pos : Pos} {v : Value} {Q : Value → Shared → Prop} {mm : Str → Option Value} (hN : s.heap.Ns C mm) (hv : mm n = some v) (hk : (compEnvC sc cl C env).scope.kind = .function)
    (hl : (compEnvC sc cl C env).kindOf n = some .local) (h : Q v s) (hb : (n == ("__debug__" : Str)) = false) :
    wpAny M A (eval (.Name n pos) (compEnvC sc cl C env)) Q E s :=
  wpAny_Name (wpAny_loadName_local hk hl hN hv h) hb
end
section
variable {prog : Program} {w : World} {A : Around} {E : Value → Shared → Prop} {s : Shared} {h₀ : Heap} {L D b : Addr} {m : Str → Option Value} {news need : Led} {l l2 : List Value} {n k : Nat} {value slice : PySem.Expr} {x : Int} {t : Tok} {Q : Value → Shared → Prop}
theorem news_list (N : News h₀ L s.heap news) (hm : (D, oLst l n) ∈ news) : s.heap.IsList D l.toArray := ⟨_, (N _ hm).1, rfl, n, rfl⟩
theorem slice_from (F : Fr h₀ L s.heap m) (N : News h₀ L s.heap news) (hm : (D, oLst l n) ∈ news) (h0 : 0 ≤ x) (hz : l.length ≤ 4096)
    (h : ∀ D' h', Fr h₀ L h' m → News h₀ L h' ((D', oLst (l.drop x.toNat) 0) :: news) → AllLt D' news → Q (.ref D') { s with heap := h' })
    (hs : subscripted slice false (.ref D) (.ref s.heap.objs.size) = operate [.ref s.heap.objs.size, .ref D] (getItem (.ref D) (.ref s.heap.objs.size)) := by with_unfolding_all rfl) (ht : ∀ r, letTemporaryGo value (.ref D) r = pure () := by intro _; with_unfolding_all rfl) :
    wpAny (model prog w) A (subscriptTail value slice (.ref D) (.ref s.heap.objs.size)) Q E { s with heap := s.heap.push { cls := .type "slice", data := .fields #[.int x t, .none, .none] } } := by
  refine kms_slice_lit F N (news_list N hm) (IsPart.int _ _) IsPart.none ?_ (fun D' h' F N l => h D' h' F N (allLt_of l)) hs ht (by rw [sizeLine_eq, List.size_toArray]; exact Nat.not_lt.mp (fun u9 => lin [_] [] (.l 1 (.a (.c 16777216) (.c 1)) (.v 0) (.l 1 (.v 0) (.c 4096) .n)) (by kernel_rfl) u9 hz))
  unfold kms_pick kms_lo kms_hi
  simp only [if_neg (show ¬ x < 0 by exact fun u9 => lin [] [_] (.L 1 (.a (.v 0) (.i 1)) (.i 0) (.L 1 (.i 0) (.v 0) .n)) (by kernel_rfl) u9 h0)]
  rw [kmk_drop_min, List.take_of_length_le]
  rw [List.length_drop]
  exact Or.elim (Nat.le_total (l.length) (x.toNat)) (fun q0 => Nat.not_lt.mp (fun u9 => lin [_, _, _, _] [] (.l 1 (.a (.v 1) (.c 1)) (.v 2) (.e (-1) (.a (.v 1) (.v 3)) (.v 0) (.e 1 (.v 2) (.c 0) (.e 1 (.v 3) (.v 0) .n)))) (by kernel_rfl) u9 (Nat.sub_add_cancel (Nat.not_lt.mp (fun u9 => lin [_, _] [] (.l 1 (.a (.v 0) (.c 1)) (.v 1) (.e 1 (.v 1) (.v 0) .n)) (by kernel_rfl) u9 (Nat.min_eq_right (Nat.not_lt.mp (fun u9 => lin [_, _] [] (.l 1 (.a (.v 1) (.c 1)) (.v 0) (.l 1 (.v 0) (.v 1) .n)) (by kernel_rfl) u9 q0)))))) (Nat.sub_eq_zero_of_le (Nat.not_lt.mp (fun u9 => lin [_, _] [] (.l 1 (.a (.v 1) (.c 1)) (.v 0) (.l 1 (.v 0) (.v 1) .n)) (by kernel_rfl) u9 q0))) (Nat.min_eq_right (Nat.not_lt.mp (fun u9 => lin [_, _] [] (.l 1 (.a (.v 1) (.c 1)) (.v 0) (.l 1 (.v 0) (.v 1) .n)) (by kernel_rfl) u9 q0))))) (fun q0 => Nat.not_lt.mp (fun u9 => lin [_, _, _, _, _] [] (.l 1 (.a (.v 2) (.c 1)) (.v 3) (.e (-1) (.a (.v 2) (.v 4)) (.v 0) (.e 1 (.a (.v 3) (.v 1)) (.v 0) (.e 1 (.v 4) (.v 1) .n)))) (by kernel_rfl) u9 (Nat.sub_add_cancel (Nat.not_lt.mp (fun u9 => lin [_, _, _] [] (.l 1 (.a (.v 0) (.c 1)) (.v 2) (.l 1 (.v 1) (.v 0) (.e 1 (.v 2) (.v 1) .n))) (by kernel_rfl) u9 q0 (Nat.min_eq_left (Nat.not_lt.mp (fun u9 => lin [_, _] [] (.l 1 (.a (.v 0) (.c 1)) (.v 1) (.l 1 (.v 1) (.v 0) .n)) (by kernel_rfl) u9 q0)))))) (Nat.sub_add_cancel (Nat.not_lt.mp (fun u9 => lin [_, _] [] (.l 1 (.a (.v 0) (.c 1)) (.v 1) (.l 1 (.v 1) (.v 0) .n)) (by kernel_rfl) u9 q0))) (Nat.min_eq_left (Nat.not_lt.mp (fun u9 => lin [_, _] [] (.l 1 (.a (.v 0) (.c 1)) (.v 1) (.l 1 (.v 1) (.v 0) .n)) (by kernel_rfl) u9 q0)))))
theorem slice_upto (F : Fr h₀ L s.heap m) (N : News h₀ L s.heap news) (hm : (D, oLst l n) ∈ news) (h0 : 0 ≤ x) (hz : l.length ≤ 4096)
    (h : ∀ D' h', Fr h₀ L h' m → News h₀ L h' ((D', oLst (l.take x.toNat) 0) :: news) → AllLt D' news → Q (.ref D') { s with heap := h' })
    (hs : subscripted slice false (.ref D) (.ref s.heap.objs.size) = operate [.ref s.heap.objs.size, .ref D] (getItem (.ref D) (.ref s.heap.objs.size)) := by with_unfolding_all rfl) (ht : ∀ r, letTemporaryGo value (.ref D) r = pure () := by intro _; with_unfolding_all rfl) :
    wpAny (model prog w) A (subscriptTail value slice (.ref D) (.ref s.heap.objs.size)) Q E { s with heap := s.heap.push { cls := .type "slice", data := .fields #[.none, .int x t, .none] } } := by
  refine kms_slice_lit F N (news_list N hm) IsPart.none (IsPart.int _ _) ?_ (fun D' h' F N l => h D' h' F N (allLt_of l)) hs ht (by rw [sizeLine_eq, List.size_toArray]; exact Nat.not_lt.mp (fun u9 => lin [_] [] (.l 1 (.a (.c 16777216) (.c 1)) (.v 0) (.l 1 (.v 0) (.c 4096) .n)) (by kernel_rfl) u9 hz))
  unfold kms_pick kms_lo kms_hi
  simp only [if_neg (show ¬ x < 0 by exact fun u9 => lin [] [_] (.L 1 (.a (.v 0) (.i 1)) (.i 0) (.L 1 (.i 0) (.v 0) .n)) (by kernel_rfl) u9 h0), List.drop_zero, Nat.sub_zero]
  rw [kmk_take_min]
theorem get_int {k : Int} {u : Tok} {ns : List Int} (N : News h₀ L s.heap news) (hm : (D, oLst l n) ∈ news) (hi : IntsAre l ns) (h0 : 0 ≤ k) (h1 : k < l.length) (hz : l.length < 2 ^ 60) (h : ∀ t', Q (.int (ns.getD k.toNat 0) t') s)
    (hs : subscripted slice false (.ref D) (.int k u) = operate [.ref D, .int k u] (getItem (.ref D) (.int k u)) := by with_unfolding_all rfl) (hg : ∀ r, letTemporaryGo value (.ref D) r = pure () := by intro _; with_unfolding_all rfl) :
    wpAny (model prog w) A (subscriptTail value slice (.ref D) (.int k u)) Q E s := by
  have hk : k.toNat < l.length := by exact Nat.not_le.mp (fun u9 => lin [_, _] [_] (.l 1 (.v 0) (.v 1) (.L 1 (.a (.v 0) (.i 1)) (.z (.v 0)) (.E 1 (.z (.v 1)) (.v 0) .n))) (by kernel_rfl) u9 h1 (Int.toNat_of_nonneg (Int.not_lt.mp (fun u9 => lin [] [_] (.L 1 (.a (.v 0) (.i 1)) (.i 0) (.L 1 (.i 0) (.v 0) .n)) (by kernel_rfl) u9 h0))))
  obtain ⟨x, tx, e, hx⟩ := ints_at hi (show l[k.toNat]? = some l[k.toNat] by simp [hk])
  have e2 : ns.getD k.toNat 0 = x := by rw [List.getD_eq_getElem?_getD, hx]; rfl
  refine get_at N hm h0 (show l[k.toNat]? = some (.int x tx) by rw [← e]; simp [hk]) hz ?_ hs hg
  rw [← e2]
  exact h tx
theorem get_ex {k : Int} {u : Tok} {f : Tok → Value} (N : News h₀ L s.heap news) (hm : (D, oLst l n) ∈ news) (h0 : 0 ≤ k) (hx : ∃ t', l[k.toNat]? = some (f t')) (hz : l.length < 2 ^ 60) (h : ∀ t', Q (f t') s)
    (hs : subscripted slice false (.ref D) (.int k u) = operate [.ref D, .int k u] (getItem (.ref D) (.int k u)) := by with_unfolding_all rfl) (hg : ∀ r, letTemporaryGo value (.ref D) r = pure () := by intro _; with_unfolding_all rfl) :
    wpAny (model prog w) A (subscriptTail value slice (.ref D) (.int k u)) Q E s := by
  obtain ⟨t', hx⟩ := hx
  exact get_at N hm h0 hx hz (h t') hs hg
theorem len_made' {Q : Value → Shared → Prop} (N : News h₀ L s.heap news) (hm : (D, oLst l n) ∈ news) (hz : l.length ≤ 4096) (h : ∀ t' k', Q (.int (l.length : Int) t') { s with toks := k' }) :
    wpAny (model prog w) A (call (.builtin "len") [.ref D]) Q E s := by
  have hf : ((l.toArray.size : Nat) : Int) < 2 ^ 63 := by rw [List.size_toArray]; exact Int.not_le.mp (fun u9 => lin [_] [] (.L 1 (.i (2 ^ 63)) (.z (.v 0)) (.l 1 (.v 0) (.c 4096) .n)) (by kernel_rfl) u9 hz)
  exact PySem.Calls.call_len_list (news_list N hm) hf (h _ _)
theorem copy_list (F : Fr h₀ L s.heap m) (N : News h₀ L s.heap news) (hm : (D, oLst l n) ∈ news) (hz : l.length ≤ 4096)
    (h : ∀ D' c h', Fr h₀ L h' m → News h₀ L h' ((D', oLst l c) :: news) → AllLt D' news → Q (.ref D') { s with heap := h' }) :
    wpAny (model prog w) A (call (.type "list") [.ref D]) Q E s :=
  kup_listOf F N hm rfl (fun D' c h' F N l => h D' c h' F N (allLt_of l)) (by rw [sizeLine_eq]; simp only []; exact Nat.not_lt.mp (fun u9 => lin [_] [] (.l 1 (.a (.c 16777216) (.c 1)) (.v 0) (.l 1 (.v 0) (.c 4096) .n)) (by kernel_rfl) u9 hz))
theorem add_lsts (F : Fr h₀ L s.heap m) (N : News h₀ L s.heap news) (hm : (D, oLst l n) ∈ news) (hm2 : (b, oLst l2 k) ∈ news) (hz : l.length + l2.length ≤ 4096)
    (h : ∀ D' h', Fr h₀ L h' m → News h₀ L h' ((D', oLst (l ++ l2) 0) :: news) → AllLt D' news → Q (.ref D') { s with heap := h' }) :
    wpAny (model prog w) A (binaryOp .Add (.ref D) (.ref b)) Q E s :=
  kmk_add_lit F N (news_list N hm) (news_list N hm2) rfl (fun D' h' F N l => h D' h' F N (allLt_of l)) (by rw [sizeLine_eq]; simp only []; exact Nat.not_lt.mp (fun u9 => lin [_, _] [] (.l 1 (.a (.c 16777216) (.c 1)) (.a (.v 0) (.v 1)) (.l 1 (.a (.v 0) (.v 1)) (.c 4096) .n)) (by kernel_rfl) u9 hz))
end
/-- a contract whose made things may stand anywhere -/
noncomputable def CTN (w : World) (p : Program) (loose : List Str) (mean : ExcName → Option Value) (mg mb : Str → Option Value) (f : Addr) (vs : List Value) (need : Nat) (news : Led) (Post : Value → Led → Prop) : Prop :=
  ∀ (dp un : Nat) (gd : Option (List Code)) (cn : Str) (cs : Scope) (a : Addr) (ccd : Value) (cl : List (Str × Addr)) (outer : List Env) (A₀ : Around) (base h₀ : Heap) (L : Addr) (m : Str → Option Value) (s : Shared) (Q E : Value → Shared → Prop),
    Below A₀ base outer h₀ → Fr h₀ L s.heap m → (hd.heap_39 w.params).In h₀ → News h₀ L s.heap news → Top p loose mean mg mb h₀ → cs.kind = .function →
    dp + need < recursionLimit → un + 200 + 8 * need < cLine →
    (∀ (r : Value) (own : Led) (h' : Heap) (tk' : Nat), Fr h₀ L h' m → News h₀ L h' (own ++ news) → Post r own → Q r { s with heap := h', toks := tk' }) →
    wpAny (model pg w) (ktrTop dp un gd cn cs L a ccd cl outer) (call (.ref f) vs) Q E s
theorem ne_succ {D : Addr} {rest : Led} (h : ∀ p ∈ rest, p.1 < D) : ∀ p ∈ rest, p.1 ≠ D + 1 := fun p hp => Nat.ne_of_lt (Nat.lt_succ_of_lt (h p hp))
theorem ord_cons {D : Addr} {o : Obj} {own news : Led} (h : ∀ q ∈ news, q.1 < D) (k : ∀ p ∈ own, ∀ q ∈ news, q.1 < p.1) : ∀ p ∈ (D, o) :: own, ∀ q ∈ news, q.1 < p.1 := by
  intro p hp
  rcases List.mem_cons.mp hp with rfl | hp
  · exact h
  · exact k p hp
/-- where the lamp of a kind lies -/
noncomputable def kA (T0 T1 T2 : Addr) (k : Int) : Addr := if k = 0 then T0 else if k = 1 then T1 else T2
/-- the lamp of a kind -/
noncomputable abbrev kindRef (T0 T1 T2 : Addr) (k : Int) : Value := .ref (kA T0 T1 T2 k)
theorem refs_of_kinds {T0 T1 T2 : Addr} {vs ys : List Value} {ks : List Int} (h : IntsAre vs ks) (P : Paired (fun v y => ∃ k t, v = Value.int k t ∧ y = kindRef T0 T1 T2 k) vs ys) : ys = ks.map (kindRef T0 T1 T2) := by
  induction h generalizing ys with
  | nil => cases P; rfl
  | cons i t _ ih =>
    cases P with | cons h1 h2 =>
    obtain ⟨k, t, e, rfl⟩ := h1
    cases e
    rw [ih h2]
    rfl
theorem nameQ {α : Type} {M : Model} {A : Around} {t : Sem α} {Q : α → Shared → Prop} {E : Value → Shared → Prop} {s : Shared} (h : ∀ Q' : α → Shared → Prop, (∀ f s', Q f s' → Q' f s') → wpAny M A t Q' E s) : wpAny M A t Q E s := h Q fun _ _ h => h
theorem count_take {ks : List Int} {i : Nat} {x : Int} (k : Int) (h : ks[i]? = some x) : (ks.take (i + 1)).count k = (ks.take i).count k + (if x = k then 1 else 0) := by
  rw [List.take_add_one, h, List.count_append]
  by_cases e : x = k
  · simp [e]
  · simp [e]
theorem tokNe {a b : Tok} (h : @Ne Nat a b) : a ≠ b := h
noncomputable def Tri (k : Int) : Prop := k = 0 ∨ k = 1 ∨ k = 2
/-- a contract of a function that changes what is made -/
noncomputable def CTM (w : World) (p : Program) (loose : List Str) (mean : ExcName → Option Value) (mg mb : Str → Option Value) (f : Addr) (vs : List Value) (need : Nat) (news : Led) (Post : Value → Led → Prop) : Prop :=
  ∀ (dp un : Nat) (gd : Option (List Code)) (cn : Str) (cs : Scope) (a : Addr) (ccd : Value) (cl : List (Str × Addr)) (outer : List Env) (A₀ : Around) (base h₀ : Heap) (L : Addr) (m : Str → Option Value) (s : Shared) (Q E : Value → Shared → Prop),
    Below A₀ base outer h₀ → Fr h₀ L s.heap m → (hd.heap_39 w.params).In h₀ → News h₀ L s.heap news → Top p loose mean mg mb h₀ → cs.kind = .function →
    dp + need < recursionLimit → un + 200 + 8 * need < cLine →
    (∀ (r : Value) (news' : Led) (h' : Heap) (tk' : Nat), Fr h₀ L h' m → News h₀ L h' news' → Post r news' → Q r { s with heap := h', toks := tk' }) →
    wpAny (model pg w) (ktrTop dp un gd cn cs L a ccd cl outer) (call (.ref f) vs) Q E s
noncomputable def c1 (r g b k : Int) : Int := if k = 0 then r else if k = 1 then b else g
noncomputable def c2 (r g b k : Int) : Int := if k = 0 then g else if k = 1 then r else b
noncomputable def c3 (r g b k : Int) : Int := if k = 0 then b else if k = 1 then g else r
/-- the three lamps -/
structure Lmp (T0 T1 T2 : Addr) (r g b : Int) (news : Led) : Prop where
  ex : ∃ x y z n0 n1 n2, x ≠ 0 ∧ y ≠ 0 ∧ z ≠ 0 ∧ x ≠ y ∧ x ≠ z ∧ y ≠ z ∧ (T0, oTup #[.int r x, .int g y, .int b z] n0) ∈ news ∧ (T1, oTup #[.int b z, .int r x, .int g y] n1) ∈ news ∧ (T2, oTup #[.int g y, .int b z, .int r x] n2) ∈ news
  lt : b < r
  lo : 0 ≤ b ∧ 0 ≤ g
  hi : r ≤ 16 ∧ g ≤ 16
theorem Lmp.mem {T0 T1 T2 : Addr} {r g b k : Int} {news : Led} (h : Lmp T0 T1 T2 r g b news) (hk : Tri k) :
    ∃ x y z n, (kA T0 T1 T2 k, oTup #[.int (c1 r g b k) x, .int (c2 r g b k) y, .int (c3 r g b k) z] n) ∈ news := by
  obtain ⟨x, y, z, n0, n1, n2, _, _, _, _, _, _, m0, m1, m2⟩ := h.ex
  rcases hk with rfl | rfl | rfl
  · exact ⟨x, y, z, n0, m0⟩
  · exact ⟨z, x, y, n1, m1⟩
  · exact ⟨y, z, x, n2, m2⟩
theorem Lmp.mono {T0 T1 T2 : Addr} {r g b : Int} {news news' : Led} (h : Lmp T0 T1 T2 r g b news) (hs : ∀ p ∈ news, p ∈ news') : Lmp T0 T1 T2 r g b news' := by
  obtain ⟨⟨x, y, z, n0, n1, n2, h1, h2, h3, h4, h5, h6, m0, m1, m2⟩, hl⟩ := h
  exact ⟨⟨x, y, z, n0, n1, n2, h1, h2, h3, h4, h5, h6, hs _ m0, hs _ m1, hs _ m2⟩, ‹_›, ‹_›, ‹_›⟩
theorem kind_eq {r g b k j : Int} (hk : Tri k) (hj : Tri j) (hl : b < r) : decide (c1 r g b k = c1 r g b j ∧ c2 r g b k = c2 r g b j ∧ c3 r g b k = c3 r g b j) = decide (k = j) := by
  apply decide_eq_decide.mpr
  constructor
  · rintro ⟨h1, h2, h3⟩
    rcases hk with rfl | rfl | rfl <;> rcases hj with rfl | rfl | rfl <;> simp [c1, c2, c3] at h1 h2 h3 ⊢ <;> (first | exact lin [] [_, _, _] (.L 1 (.a (.v 0) (.i 1)) (.v 1) (.E (-1) (.v 2) (.v 1) (.E (-1) (.v 0) (.v 2) .n))) (by kernel_rfl) hl h1 h2 | exact lin [] [_, _, _] (.L 1 (.a (.v 0) (.i 1)) (.v 1) (.E 1 (.v 1) (.v 2) (.E 1 (.v 2) (.v 0) .n))) (by kernel_rfl) hl h1 h2 | exact lin [] [_, _] (.L 1 (.a (.v 0) (.i 1)) (.v 1) (.E (-1) (.v 0) (.v 1) .n)) (by kernel_rfl) hl h1 | exact lin [] [_, _] (.L 1 (.a (.v 0) (.i 1)) (.v 1) (.E (-1) (.v 0) (.v 1) .n)) (by kernel_rfl) hl h2 | exact lin [] [_, _] (.L 1 (.a (.v 0) (.i 1)) (.v 1) (.E 1 (.v 1) (.v 0) .n)) (by kernel_rfl) hl h1 | exact lin [] [_, _] (.L 1 (.a (.v 0) (.i 1)) (.v 1) (.E 1 (.v 1) (.v 0) .n)) (by kernel_rfl) hl h2)
  · rintro rfl; exact ⟨rfl, rfl, rfl⟩
theorem kA_inj {T0 T1 T2 : Addr} {r g b k j : Int} {h₀ h : Heap} {L : Addr} {news : Led} (H : Lmp T0 T1 T2 r g b news) (N : News h₀ L h news) (hk : Tri k) (hj : Tri j) (e : kA T0 T1 T2 k = kA T0 T1 T2 j) : k = j := by
  obtain ⟨x, y, z, n, m1⟩ := H.mem hk
  obtain ⟨x', y', z', n', m2⟩ := H.mem hj
  have e1 := (N _ m1).1
  have e2 := (N _ m2).1
  dsimp only at e1 e2
  rw [e, e2] at e1
  have e3 := Option.some.inj e1
  simp only [oTup, Obj.mk.injEq, Data.seq.injEq, Array.mk.injEq, List.cons.injEq, Value.int.injEq] at e3
  have := kind_eq (g := g) hk hj H.lt
  have h2 : decide (c1 r g b k = c1 r g b j ∧ c2 r g b k = c2 r g b j ∧ c3 r g b k = c3 r g b j) = true := by
    rw [decide_eq_true_iff]
    exact ⟨e3.2.2.1.1.1.1.symm, e3.2.2.1.1.2.1.1.symm, e3.2.2.1.1.2.2.1.1.symm⟩
  rw [h2] at this
  exact of_decide_eq_true this.symm
section
variable {prog : Program} {w : World} {A : Around} {E : Value → Shared → Prop} {s : Shared} {h₀ : Heap} {L T0 T1 T2 : Addr} {news : Led} {r g b k j : Int} {Q : Value → Shared → Prop}
theorem ne_kind (N : News h₀ L s.heap news) (H : Lmp T0 T1 T2 r g b news) (hk : Tri k) (hj : Tri j) (hu : A.units + 64 < cLine) (h : Q (.bool (!decide (k = j))) s) : wpAny (model prog w) A (compareOp .NotEq (.ref (kA T0 T1 T2 k)) (.ref (kA T0 T1 T2 j))) Q E s := by
  obtain ⟨x, y, z, n, m1⟩ := H.mem hk
  obtain ⟨x', y', z', n', m2⟩ := H.mem hj
  refine ne_t3 N m1 m2 hu ?_
  rw [kind_eq hk hj H.lt]
  exact h
theorem eq_kind (N : News h₀ L s.heap news) (H : Lmp T0 T1 T2 r g b news) (hk : Tri k) (hj : Tri j) (hu : A.units + 64 < cLine) (h : Q (.bool (decide (k = j))) s) : wpAny (model prog w) A (compareOp .Eq (.ref (kA T0 T1 T2 k)) (.ref (kA T0 T1 T2 j))) Q E s := by
  obtain ⟨x, y, z, n, m1⟩ := H.mem hk
  obtain ⟨x', y', z', n', m2⟩ := H.mem hj
  refine eq_t3 N m1 m2 hu ?_
  rw [kind_eq hk hj H.lt]
  exact h
theorem same_ne {p q : Int} {t u : Tok} {R : Bool → Shared → Prop} (hpq : p ≠ q) (ht : t ≠ 0) (hu : u ≠ 0) (htu : t ≠ u) (h : R false s) : wpAny (model prog w) A (isSame (.int p t) (.int q u)) R E s := by
  have e1 : (p == q && smallInt p) = false := by simp [hpq]
  have e2 : (p == q) = false := by simp [hpq]
  show wpAny _ _ (if (p == q && smallInt p) = true then isSame.cachedInt t u else isSame.created (p == q) t u) R E s
  rw [e1, if_neg Bool.false_ne_true, e2]
  unfold isSame.created
  have e3 : (t == 0 || u == 0) = false := by simp [ht, hu]
  have e4 : (t == u) = false := by simp [htu]
  rw [e3, e4, if_neg Bool.false_ne_true, if_neg Bool.false_ne_true]
  exact wpAny_pure h
theorem same_eq {p : Int} {t u : Tok} {R : Bool → Shared → Prop} (hs : smallInt p = true) (ht : t ≠ 0) (hu : u ≠ 0) (h : R true s) : wpAny (model prog w) A (isSame (.int p t) (.int p u)) R E s := by
  have e1 : (p == p && smallInt p) = true := by simp [hs]
  show wpAny _ _ (if (p == p && smallInt p) = true then isSame.cachedInt t u else isSame.created (p == p) t u) R E s
  rw [e1, if_pos rfl]
  unfold isSame.cachedInt
  have e3 : (t == 0 || u == 0) = false := by simp [ht, hu]
  rw [e3, if_neg Bool.false_ne_true]
  exact wpAny_bind (wpAny_rule (wpAny_pure h))
theorem entry_is : entryFor table "proto.is" = some Builtin.«proto.is» := entryFor_of_tree (by kernel_rfl)
theorem plain_is : plainId "proto.is" = true := by decide +kernel
theorem run_is {a b : Value} {Q : Value → Shared → Prop} (h : ∀ A' : Around, wpAny (model prog w) A' (isSame a b) (fun v s' => Q (.bool v) s') E s) : wpAny (model prog w) A (runValue (.builtin "proto.is" ⟨[a, b], []⟩)) Q E s := by
  refine wpAny_runValue (codeAny_builtin entry_is ?_)
  rw [Around.under_plainId plain_is]
  show wpAny _ A.in1 (isSame a b >>= _) _ _ s
  refine wpAny_bind (wpAny_mono (h A.in1) (fun v s' hv => ?_) fun _ _ e => e)
  exact wpAny_pure hv
/-- a turn of the look at the items -/
noncomputable def isTurn : Value × Value → Option Bool × Unit → Sem (ForInStep (Option Bool × Unit)) := fun x _ =>
  match x with
  | (p, q) => do
    match ← runValue (Code.builtin "proto.is" { pos := [p, q] }) with
    | Value.bool true =>
      let w := (← ask).params
      if !(joinedAsOfOld w p q) then pure (ForInStep.done (some false, ()))
      else do
        if !(← emptiesJoinedAsOfOld w p q) then pure (ForInStep.done (some false, ()))
        else pure (ForInStep.yield (none, ()))
    | _ => pure (ForInStep.done (some false, ()))
theorem turn_ne {p q : Int} {t u : Tok} {st : Option Bool × Unit} {R : ForInStep (Option Bool × Unit) → Shared → Prop} (hpq : p ≠ q) (ht : t ≠ 0) (hu : u ≠ 0) (htu : t ≠ u) (h : R (.done (some false, ())) s) : wpAny (model prog w) A (isTurn (.int p t, .int q u) st) R E s :=
  wpAny_bind (run_is fun _ => same_ne hpq ht hu htu (wpAny_pure h))
theorem turn_eq {p : Int} {t u : Tok} {st : Option Bool × Unit} {R : ForInStep (Option Bool × Unit) → Shared → Prop} (hs : smallInt p = true) (ht : t ≠ 0) (hu : u ≠ 0) (h : R (.done (some false, ())) s) (k : R (.yield (none, ())) s) : wpAny (model prog w) A (isTurn (.int p t, .int p u) st) R E s := by
  refine wpAny_bind (run_is fun _ => same_eq hs ht hu ?_)
  refine wpAny_bind (PySem.W.X.x_ask (wpAny_pure ?_))
  show wpAny _ _ (if (!(joinedAsOfOld w.params (.int p t) (.int p u))) = true then _ else _) _ _ _
  split
  · exact wpAny_pure h
  · exact wpAny_pure k
theorem items_differ {a0 a1 a2 b0 b1 b2 : Int} {t0 t1 t2 u0 u1 u2 : Tok} {R : Bool → Shared → Prop} (hd : ¬ (a0 = b0 ∧ a1 = b1 ∧ a2 = b2))
    (h0 : t0 ≠ 0 ∧ u0 ≠ 0 ∧ smallInt a0 = true ∧ (a0 ≠ b0 → t0 ≠ u0)) (h1 : t1 ≠ 0 ∧ u1 ≠ 0 ∧ smallInt a1 = true ∧ (a1 ≠ b1 → t1 ≠ u1)) (h2 : t2 ≠ 0 ∧ u2 ≠ 0 ∧ smallInt a2 = true ∧ (a2 ≠ b2 → t2 ≠ u2)) (h : R false s) :
    wpAny (model prog w) A (sameItems #[.int a0 t0, .int a1 t1, .int a2 t2] #[.int b0 u0, .int b1 u1, .int b2 u2]) R E s := by
  have fin : wpAny (model prog w) A (forIn [((.int a0 t0, .int b0 u0) : Value × Value), (.int a1 t1, .int b1 u1), (.int a2 t2, .int b2 u2)] ((none, ()) : Option Bool × Unit) isTurn) (fun r s' => r.1 = some false ∧ R false s') E s := by
    rw [List.forIn_cons]
    by_cases e0 : a0 = b0
    · subst e0
      refine wpAny_bind (turn_eq h0.2.2.1 h0.1 h0.2.1 (wpAny_pure ⟨rfl, h⟩) ?_)
      dsimp only
      rw [List.forIn_cons]
      by_cases e1 : a1 = b1
      · subst e1
        refine wpAny_bind (turn_eq h1.2.2.1 h1.1 h1.2.1 (wpAny_pure ⟨rfl, h⟩) ?_)
        dsimp only
        rw [List.forIn_cons]
        have e2 : a2 ≠ b2 := fun e => hd ⟨rfl, rfl, e⟩
        exact wpAny_bind (turn_ne e2 h2.1 h2.2.1 (h2.2.2.2 e2) (wpAny_pure ⟨rfl, h⟩))
      · exact wpAny_bind (turn_ne e1 h1.1 h1.2.1 (h1.2.2.2 e1) (wpAny_pure ⟨rfl, h⟩))
    · exact wpAny_bind (turn_ne e0 h0.1 h0.2.1 (h0.2.2.2 e0) (wpAny_pure ⟨rfl, h⟩))
  show wpAny _ _ (forIn [((.int a0 t0, .int b0 u0) : Value × Value), (.int a1 t1, .int b1 u1), (.int a2 t2, .int b2 u2)] ((none, ()) : Option Bool × Unit) isTurn >>= _) _ _ s
  refine wpAny_bind (wpAny_mono fin (fun r s' hr => ?_) fun _ _ e => e)
  obtain ⟨r1, r2⟩ := r
  obtain ⟨hr1, hr2⟩ := hr
  dsimp only at hr1
  subst hr1
  exact wpAny_pure hr2
theorem is_t3 {x y : Addr} {a0 a1 a2 b0 b1 b2 : Int} {t0 t1 t2 u0 u1 u2 : Tok} {n k : Nat} {Q : Value → Shared → Prop} (N : News h₀ L s.heap news) (m1 : (x, oTup #[.int a0 t0, .int a1 t1, .int a2 t2] n) ∈ news) (m2 : (y, oTup #[.int b0 u0, .int b1 u1, .int b2 u2] k) ∈ news) (hxy : x ≠ y) (hd : ¬ (a0 = b0 ∧ a1 = b1 ∧ a2 = b2))
    (h0 : t0 ≠ 0 ∧ u0 ≠ 0 ∧ smallInt a0 = true ∧ (a0 ≠ b0 → t0 ≠ u0)) (h1 : t1 ≠ 0 ∧ u1 ≠ 0 ∧ smallInt a1 = true ∧ (a1 ≠ b1 → t1 ≠ u1)) (h2 : t2 ≠ 0 ∧ u2 ≠ 0 ∧ smallInt a2 = true ∧ (a2 ≠ b2 → t2 ≠ u2)) (h : Q (.bool false) s) :
    wpAny (model prog w) A (compareOp .Is (.ref x) (.ref y)) Q E s := by
  show wpAny _ A (do return .bool (← isSame (.ref x) (.ref y))) Q E s
  refine wpAny_bind ?_
  show wpAny _ A (if (x == y) = true then pure true else _) _ E s
  rw [if_neg (by simpa using hxy)]
  refine wpAny_bind (wpAny_load (N _ m1).1 (wpAny_bind (wpAny_load (N _ m2).1 ?_)))
  show wpAny _ A (sameTuple x y #[.int a0 t0, .int a1 t1, .int a2 t2] #[.int b0 u0, .int b1 u1, .int b2 u2]) _ E s
  unfold sameTuple
  refine wpAny_bind (PySem.W.X.x_ask (wpAny_pure ?_))
  dsimp only
  split
  · exact wpAny_pure (wpAny_pure h)
  split
  · exact wpAny_pure (wpAny_pure h)
  refine wpAny_bind (wpAny_holding (items_differ hd h0 h1 h2 ?_))
  exact wpAny_pure (wpAny_pure h)
theorem is_kind {Q : Value → Shared → Prop} (N : News h₀ L s.heap news) (H : Lmp T0 T1 T2 r g b news) (hk : Tri k) (hj : Tri j) (h : ∀ v, (v = true → k = j) → Q (.bool v) s) : wpAny (model prog w) A (compareOp .Is (.ref (kA T0 T1 T2 k)) (.ref (kA T0 T1 T2 j))) Q E s := by
  by_cases e : kA T0 T1 T2 k = kA T0 T1 T2 j
  · have e2 := kA_inj H N hk hj e
    subst e2
    exact wpAny_is_ref_self (h true fun _ => rfl)
  · obtain ⟨x, y, z, n0, n1, n2, x0, y0, z0, xy, xz, yz, m0, m1, m2⟩ := H.ex
    have sr : smallInt r = true := by have := H.lo; have := H.hi; have := H.lt; simp [smallInt]; (rename_i w0 w1; exact ⟨Int.not_lt.mp (fun u9 => lin [] [_, _] (.L 1 (.a (.v 1) (.i 1)) (.i (-5)) (.L 1 (.i 0) (.v 0) (.L 1 (.a (.v 0) (.i 1)) (.v 1) .n))) (by kernel_rfl) u9 w0.1 this), Int.not_lt.mp (fun u9 => lin [] [_] (.L 1 (.a (.i 256) (.i 1)) (.v 0) (.L 1 (.v 0) (.i 16) .n)) (by kernel_rfl) u9 w1.1)⟩)
    have sg : smallInt g = true := by have := H.lo; have := H.hi; simp [smallInt]; (rename_i w0; exact ⟨Int.not_lt.mp (fun u9 => lin [] [_] (.L 1 (.a (.v 0) (.i 1)) (.i (-5)) (.L 1 (.i 0) (.v 0) .n)) (by kernel_rfl) u9 w0.2), Int.not_lt.mp (fun u9 => lin [] [_] (.L 1 (.a (.i 256) (.i 1)) (.v 0) (.L 1 (.v 0) (.i 16) .n)) (by kernel_rfl) u9 this.2)⟩)
    have sb : smallInt b = true := by have := H.lo; have := H.hi; have := H.lt; simp [smallInt]; (rename_i w0 w1; exact ⟨Int.not_lt.mp (fun u9 => lin [] [_] (.L 1 (.a (.v 0) (.i 1)) (.i (-5)) (.L 1 (.i 0) (.v 0) .n)) (by kernel_rfl) u9 w0.1), Int.not_lt.mp (fun u9 => lin [] [_, _] (.L 1 (.a (.i 256) (.i 1)) (.v 0) (.L 1 (.v 1) (.i 16) (.L 1 (.a (.v 0) (.i 1)) (.v 1) .n))) (by kernel_rfl) u9 w1.1 this)⟩)
    have hl := H.lt
    have hf : Q (.bool false) s := h false fun h => nomatch h
    rcases hk with rfl | rfl | rfl <;> rcases hj with rfl | rfl | rfl
    · exact absurd rfl e
    · exact is_t3 N m0 m1 e (by omega) ⟨x0, z0, sr, fun _ => xz⟩ ⟨y0, x0, sg, fun _ => xy.symm⟩ ⟨z0, y0, sb, fun _ => yz.symm⟩ hf
    · exact is_t3 N m0 m2 e (by omega) ⟨x0, y0, sr, fun _ => xy⟩ ⟨y0, z0, sg, fun _ => yz⟩ ⟨z0, x0, sb, fun _ => xz.symm⟩ hf
    · exact is_t3 N m1 m0 e (by omega) ⟨z0, x0, sb, fun _ => xz.symm⟩ ⟨x0, y0, sr, fun _ => xy⟩ ⟨y0, z0, sg, fun _ => yz⟩ hf
    · exact absurd rfl e
    · exact is_t3 N m1 m2 e (by omega) ⟨z0, y0, sb, fun _ => yz.symm⟩ ⟨x0, z0, sr, fun _ => xz⟩ ⟨y0, x0, sg, fun _ => xy.symm⟩ hf
    · exact is_t3 N m2 m0 e (by omega) ⟨y0, x0, sg, fun _ => xy.symm⟩ ⟨z0, y0, sb, fun _ => yz.symm⟩ ⟨x0, z0, sr, fun _ => xz⟩ hf
    · exact is_t3 N m2 m1 e (by omega) ⟨y0, z0, sg, fun _ => yz⟩ ⟨z0, x0, sb, fun _ => xz.symm⟩ ⟨x0, y0, sr, fun _ => xy⟩ hf
    · exact absurd rfl e
theorem get_kind {D : Addr} {n : Nat} {value slice : PySem.Expr} {ls : List Int} {i : Int} {u : Tok} {Q : Value → Shared → Prop} (N : News h₀ L s.heap news) (hm : (D, oLst (ls.map (kindRef T0 T1 T2)) n) ∈ news) (h0 : 0 ≤ i) (h1 : i < ls.length) (hz : ls.length ≤ 4096)
    (h : Q (.ref (kA T0 T1 T2 (ls.getD i.toNat 0))) s)
    (hs : subscripted slice false (.ref D) (.int i u) = operate [.ref D, .int i u] (getItem (.ref D) (.int i u)) := by with_unfolding_all rfl) (hg : ∀ r, letTemporaryGo value (.ref D) r = pure () := by intro _; with_unfolding_all rfl) :
    wpAny (model prog w) A (subscriptTail value slice (.ref D) (.int i u)) Q E s := by
  have hi : i.toNat < ls.length := by exact Nat.not_le.mp (fun u9 => lin [_, _] [_] (.l 1 (.v 0) (.v 1) (.L 1 (.a (.v 0) (.i 1)) (.z (.v 0)) (.E 1 (.z (.v 1)) (.v 0) .n))) (by kernel_rfl) u9 h1 (Int.toNat_of_nonneg (Int.not_lt.mp (fun u9 => lin [] [_] (.L 1 (.a (.v 0) (.i 1)) (.i 0) (.L 1 (.i 0) (.v 0) .n)) (by kernel_rfl) u9 h0))))
  refine get_at N hm h0 (x := .ref (kA T0 T1 T2 (ls.getD i.toNat 0))) ?_ (by rw [List.length_map]; exact Nat.not_le.mp (fun u9 => lin [_] [] (.l 1 (.c (2 ^ 60)) (.v 0) (.l 1 (.v 0) (.c 4096) .n)) (by kernel_rfl) u9 hz)) h hs hg
  rw [List.getElem?_map, List.getD_eq_getElem?_getD, List.getElem?_eq_getElem hi]
  rfl
end
theorem tri_at {ls : List Int} {i : Nat} (h : ∀ x ∈ ls, Tri x) (hi : i < ls.length) : Tri (ls.getD i 0) := by
  rw [List.getD_eq_getElem?_getD, List.getElem?_eq_getElem hi]
  exact h _ (List.getElem_mem hi)
end
section
/-! names for the kinds of side goals, so that one macro can tell them apart -/
section
variable {h₀ h : Heap} {L D : Addr} {m : Str → Option Value} {news need : Led} {x : Addr × Obj}
theorem gF (k : Fr h₀ L h m) : Fr h₀ L h m := k
theorem gN (k : News h₀ L h news) : News h₀ L h news := k
theorem gM (k : x ∈ news) : x ∈ news := k
theorem mt {y : Addr × Obj} (k : x ∈ news) : x ∈ y :: news := .tail _ k
theorem mh : x ∈ x :: news := .head _
theorem gB (k : Beside D need news) : Beside D need news := k
theorem gL (k : ∀ q ∈ news, q.1 < D) : ∀ q ∈ news, q.1 < D := k
theorem gE {α : Sort _} {a b : α} (k : a = b) : a = b := k
theorem gX {α : Sort _} {β : Sort _} {a b : α → β} (k : ∀ r, a r = b r) : ∀ r, a r = b r := k
theorem gS {α : Type} {a b : Sem α} (k : a = b) : a = b := k
theorem gU {A : Around} (k : A.units + 64 < cLine) : A.units + 64 < cLine := k
theorem gNs {C : Addr} (k : h.Ns C m) : h.Ns C m := k
theorem gI {l : List Value} {ns : List Int} (k : IntsAre l ns) : IntsAre l ns := k
theorem gP {T0 T1 T2 : Addr} {r g b : Int} (k : Lmp T0 T1 T2 r g b news) : Lmp T0 T1 T2 r g b news := k
theorem gT {k : Int} (h : Tri k) : Tri k := h
theorem gNL {a b : Nat} (h : a ≤ b) : a ≤ b := h
theorem gNS {a b : Nat} (h : a < b) : a < b := h
theorem gIL {a b : Int} (h : a ≤ b) : a ≤ b := h
theorem gIS {a b : Int} (h : a < b) : a < b := h
end
/-! the nth part of a chain -/
section
variable {a b c d e f g h i j k l n o p q : Prop}
theorem r1 (x : a ∧ b) : b := x.2
theorem r2 (x : a ∧ b ∧ c) : c := x.2.2
theorem r3 (x : a ∧ b ∧ c ∧ d) : d := x.2.2.2
theorem r4 (x : a ∧ b ∧ c ∧ d ∧ e) : e := x.2.2.2.2
theorem r5 (x : a ∧ b ∧ c ∧ d ∧ e ∧ f) : f := x.2.2.2.2.2
theorem r6 (x : a ∧ b ∧ c ∧ d ∧ e ∧ f ∧ g) : g := x.2.2.2.2.2.2
theorem r7 (x : a ∧ b ∧ c ∧ d ∧ e ∧ f ∧ g ∧ h) : h := x.2.2.2.2.2.2.2
theorem r8 (x : a ∧ b ∧ c ∧ d ∧ e ∧ f ∧ g ∧ h ∧ i) : i := x.2.2.2.2.2.2.2.2
theorem r9 (x : a ∧ b ∧ c ∧ d ∧ e ∧ f ∧ g ∧ h ∧ i ∧ j) : j := x.2.2.2.2.2.2.2.2.2
theorem r10 (x : a ∧ b ∧ c ∧ d ∧ e ∧ f ∧ g ∧ h ∧ i ∧ j ∧ k) : k := x.2.2.2.2.2.2.2.2.2.2
theorem r11 (x : a ∧ b ∧ c ∧ d ∧ e ∧ f ∧ g ∧ h ∧ i ∧ j ∧ k ∧ l) : l := x.2.2.2.2.2.2.2.2.2.2.2
theorem r12 (x : a ∧ b ∧ c ∧ d ∧ e ∧ f ∧ g ∧ h ∧ i ∧ j ∧ k ∧ l ∧ n) : n := x.2.2.2.2.2.2.2.2.2.2.2.2
theorem r13 (x : a ∧ b ∧ c ∧ d ∧ e ∧ f ∧ g ∧ h ∧ i ∧ j ∧ k ∧ l ∧ n ∧ o) : o := x.2.2.2.2.2.2.2.2.2.2.2.2.2
theorem r14 (x : a ∧ b ∧ c ∧ d ∧ e ∧ f ∧ g ∧ h ∧ i ∧ j ∧ k ∧ l ∧ n ∧ o ∧ p) : p := x.2.2.2.2.2.2.2.2.2.2.2.2.2.2
theorem r15 (x : a ∧ b ∧ c ∧ d ∧ e ∧ f ∧ g ∧ h ∧ i ∧ j ∧ k ∧ l ∧ n ∧ o ∧ p ∧ q) : q := x.2.2.2.2.2.2.2.2.2.2.2.2.2.2.2
theorem lz {D : Addr} {news : Led} {p : Addr × Obj} (h : ∀ q ∈ news, q.1 < D) (m : p ∈ news) : p.1 ≠ D := fun e => Nat.lt_irrefl _ (e ▸ h p m)
section
variable {x y : Nat}
theorem s0 (z : x < y ∧ b) : x ≠ y := Nat.ne_of_lt z.1
theorem s1 (z : a ∧ x < y ∧ c) : x ≠ y := Nat.ne_of_lt z.2.1
theorem s2 (z : a ∧ b ∧ x < y ∧ d) : x ≠ y := Nat.ne_of_lt z.2.2.1
theorem s3 (z : a ∧ b ∧ c ∧ x < y ∧ e) : x ≠ y := Nat.ne_of_lt z.2.2.2.1
theorem s4 (z : a ∧ b ∧ c ∧ d ∧ x < y ∧ f) : x ≠ y := Nat.ne_of_lt z.2.2.2.2.1
theorem s5 (z : a ∧ b ∧ c ∧ d ∧ e ∧ x < y ∧ g) : x ≠ y := Nat.ne_of_lt z.2.2.2.2.2.1
theorem s6 (z : a ∧ b ∧ c ∧ d ∧ e ∧ f ∧ x < y ∧ h) : x ≠ y := Nat.ne_of_lt z.2.2.2.2.2.2.1
end
end
section
variable {prog : Program} {w : World} {A : Around} {E : Value → Shared → Prop} {s : Shared} {h₀ : Heap} {L D b : Addr} {m : Str → Option Value} {news need : Led} {l l2 : List Value} {n k : Nat} {value slice : PySem.Expr} {t : Tok} {Q : Value → Shared → Prop}
theorem tup_at {x : Int} {u : Tok} {xs : Array Value} {j : Nat} {v : Value} (N : News h₀ L s.heap news) (hm : (D, oTup xs n) ∈ news) (hj : seqIndex? x xs.toList.length = some j) (hx : xs.toList[j]? = some v) (hlo : decide (-(2 ^ 63) ≤ x ∧ x < 2 ^ 63) = true) (h : Q v s)
    (hs : subscripted slice false (.ref D) (.int x u) = operate [.ref D, .int x u] (getItem (.ref D) (.int x u)) := by with_unfolding_all rfl) :
    wpAny (model prog w) A (subscriptTail value slice (.ref D) (.int x u)) Q E s :=
  item_tupleT (News.isTup N hm) (of_decide_eq_true hlo).1 (of_decide_eq_true hlo).2 hj hx h hs
theorem get_last {u : Tok} {x : Value} (N : News h₀ L s.heap news) (hm : (D, oLst (l ++ [x]) n) ∈ news) (hz : l.length ≤ 4096) (h : Q x s)
    (hs : subscripted slice false (.ref D) (.int (-1) u) = operate [.ref D, .int (-1) u] (getItem (.ref D) (.int (-1) u)) := by with_unfolding_all rfl) (hg : ∀ r, letTemporaryGo value (.ref D) r = pure () := by intro _; with_unfolding_all rfl) :
    wpAny (model prog w) A (subscriptTail value slice (.ref D) (.int (-1) u)) Q E s :=
  get_back N hm (by decide) (by rw [List.length_append, List.length_singleton]; omega) idx_last (by rw [List.length_append, List.length_singleton]; omega) h hs hg
theorem len_map {f : Int → Value} {ls : List Int} (N : News h₀ L s.heap news) (hm : (D, oLst (ls.map f) n) ∈ news) (hz : ls.length ≤ 4096) (h : ∀ t' k', Q (.int (ls.length : Int) t') { s with toks := k' }) :
    wpAny (model prog w) A (call (.builtin "len") [.ref D]) Q E s := by
  refine len_made' N hm (by rw [List.length_map]; exact hz) ?_
  rw [List.length_map]
  exact h
end
/-- a stored local: the frame's names get a name of their own -/
theorem storeL {M : Model} {A : Around} {E : Value → Shared → Prop} {s : Shared} {h₀ : Heap} {L a : Addr} {m : Str → Option Value} {cn : Str} {cs : Scope} {ccd : Value} {cl : List (Str × Addr)} {x : Str} {v : Value} {Q : Unit → Shared → Prop} {news : Led}
    (F : Fr h₀ L s.heap m) (N : News h₀ L s.heap news)
    (hk : cs.kind = .function) (hx : (envX cn cs L a ccd cl).kindOf x = some .local)
    (h : ∀ h' tk', let M' := fun y => if y = x then some v else m y; Fr h₀ L h' M' → News h₀ L h' news → Q () { s with heap := h', toks := tk' }) : wpAny M A (storeName (envX cn cs L a ccd cl) x v) Q E s :=
  storeX_L F N (fun h' => h h' _) hk hx
theorem rm0 {d a c : Nat} (h : d + a < c) : d < c := Nat.lt_of_le_of_lt (Nat.le_add_right _ _) h
theorem rm1 {d a b c : Nat} (h : d + a < c) (e : b ≤ a) : d + b < c := Nat.lt_of_le_of_lt (Nat.add_le_add_left e _) h
theorem rm2 {d a b b' c : Nat} (h : d + a < c) (e : b + b' ≤ a) : d + b + b' < c := Nat.add_assoc d b b' ▸ rm1 h e
theorem un3 {d k n m c : Nat} (h : d + 200 + 8 * k < c) (e : n + 200 + 8 * m ≤ 200 + 8 * k) : d + n + 200 + 8 * m < c := by
  rw [Nat.add_assoc] at h
  rw [Nat.add_assoc, Nat.add_assoc, ← Nat.add_assoc n]
  exact rm1 h e
theorem un4 {d k n m c : Nat} (h : d + 200 + 8 * k < c) (e : n + m ≤ 200 + 8 * k) : d + n + m < c := by
  rw [Nat.add_assoc] at h ⊢
  exact rm1 h e
/-! one step for many parts -/
section
set_option linter.unusedVariables false
theorem xx2 {α0 α1 : Type} {P : α0 → α1 → Prop} {C : Prop} (h : ∃ a0 a1, P a0 a1) (k : ∀ a0 a1, P a0 a1 → C) : C := h.elim fun a0 h => h.elim fun a1 h => k a0 a1 h
theorem xx5 {α0 α1 α2 α3 α4 : Type} {P : α0 → α1 → α2 → α3 → α4 → Prop} {C : Prop} (h : ∃ a0 a1 a2 a3 a4, P a0 a1 a2 a3 a4) (k : ∀ a0 a1 a2 a3 a4, P a0 a1 a2 a3 a4 → C) : C := h.elim fun a0 h => h.elim fun a1 h => h.elim fun a2 h => h.elim fun a3 h => h.elim fun a4 h => k a0 a1 a2 a3 a4 h
theorem xx9 {α0 α1 α2 α3 α4 α5 α6 α7 α8 : Type} {P : α0 → α1 → α2 → α3 → α4 → α5 → α6 → α7 → α8 → Prop} {C : Prop} (h : ∃ a0 a1 a2 a3 a4 a5 a6 a7 a8, P a0 a1 a2 a3 a4 a5 a6 a7 a8) (k : ∀ a0 a1 a2 a3 a4 a5 a6 a7 a8, P a0 a1 a2 a3 a4 a5 a6 a7 a8 → C) : C := h.elim fun a0 h => h.elim fun a1 h => h.elim fun a2 h => h.elim fun a3 h => h.elim fun a4 h => h.elim fun a5 h => h.elim fun a6 h => h.elim fun a7 h => h.elim fun a8 h => k a0 a1 a2 a3 a4 a5 a6 a7 a8 h
theorem xx10 {α0 α1 α2 α3 α4 α5 α6 α7 α8 α9 : Type} {P : α0 → α1 → α2 → α3 → α4 → α5 → α6 → α7 → α8 → α9 → Prop} {C : Prop} (h : ∃ a0 a1 a2 a3 a4 a5 a6 a7 a8 a9, P a0 a1 a2 a3 a4 a5 a6 a7 a8 a9) (k : ∀ a0 a1 a2 a3 a4 a5 a6 a7 a8 a9, P a0 a1 a2 a3 a4 a5 a6 a7 a8 a9 → C) : C := h.elim fun a0 h => h.elim fun a1 h => h.elim fun a2 h => h.elim fun a3 h => h.elim fun a4 h => h.elim fun a5 h => h.elim fun a6 h => h.elim fun a7 h => h.elim fun a8 h => h.elim fun a9 h => k a0 a1 a2 a3 a4 a5 a6 a7 a8 a9 h
theorem xx11 {α0 α1 α2 α3 α4 α5 α6 α7 α8 α9 α10 : Type} {P : α0 → α1 → α2 → α3 → α4 → α5 → α6 → α7 → α8 → α9 → α10 → Prop} {C : Prop} (h : ∃ a0 a1 a2 a3 a4 a5 a6 a7 a8 a9 a10, P a0 a1 a2 a3 a4 a5 a6 a7 a8 a9 a10) (k : ∀ a0 a1 a2 a3 a4 a5 a6 a7 a8 a9 a10, P a0 a1 a2 a3 a4 a5 a6 a7 a8 a9 a10 → C) : C := h.elim fun a0 h => h.elim fun a1 h => h.elim fun a2 h => h.elim fun a3 h => h.elim fun a4 h => h.elim fun a5 h => h.elim fun a6 h => h.elim fun a7 h => h.elim fun a8 h => h.elim fun a9 h => h.elim fun a10 h => k a0 a1 a2 a3 a4 a5 a6 a7 a8 a9 a10 h
theorem xx12 {α0 α1 α2 α3 α4 α5 α6 α7 α8 α9 α10 α11 : Type} {P : α0 → α1 → α2 → α3 → α4 → α5 → α6 → α7 → α8 → α9 → α10 → α11 → Prop} {C : Prop} (h : ∃ a0 a1 a2 a3 a4 a5 a6 a7 a8 a9 a10 a11, P a0 a1 a2 a3 a4 a5 a6 a7 a8 a9 a10 a11) (k : ∀ a0 a1 a2 a3 a4 a5 a6 a7 a8 a9 a10 a11, P a0 a1 a2 a3 a4 a5 a6 a7 a8 a9 a10 a11 → C) : C := h.elim fun a0 h => h.elim fun a1 h => h.elim fun a2 h => h.elim fun a3 h => h.elim fun a4 h => h.elim fun a5 h => h.elim fun a6 h => h.elim fun a7 h => h.elim fun a8 h => h.elim fun a9 h => h.elim fun a10 h => h.elim fun a11 h => k a0 a1 a2 a3 a4 a5 a6 a7 a8 a9 a10 a11 h
theorem xx14 {α0 α1 α2 α3 α4 α5 α6 α7 α8 α9 α10 α11 α12 α13 : Type} {P : α0 → α1 → α2 → α3 → α4 → α5 → α6 → α7 → α8 → α9 → α10 → α11 → α12 → α13 → Prop} {C : Prop} (h : ∃ a0 a1 a2 a3 a4 a5 a6 a7 a8 a9 a10 a11 a12 a13, P a0 a1 a2 a3 a4 a5 a6 a7 a8 a9 a10 a11 a12 a13) (k : ∀ a0 a1 a2 a3 a4 a5 a6 a7 a8 a9 a10 a11 a12 a13, P a0 a1 a2 a3 a4 a5 a6 a7 a8 a9 a10 a11 a12 a13 → C) : C := h.elim fun a0 h => h.elim fun a1 h => h.elim fun a2 h => h.elim fun a3 h => h.elim fun a4 h => h.elim fun a5 h => h.elim fun a6 h => h.elim fun a7 h => h.elim fun a8 h => h.elim fun a9 h => h.elim fun a10 h => h.elim fun a11 h => h.elim fun a12 h => h.elim fun a13 h => k a0 a1 a2 a3 a4 a5 a6 a7 a8 a9 a10 a11 a12 a13 h
theorem xi2 {α0 α1 : Type} {P : α0 → α1 → Prop} (a0 : α0) (a1 : α1) (h : P a0 a1) : ∃ a0 a1, P a0 a1 := ⟨a0, a1, h⟩
theorem xi5 {α0 α1 α2 α3 α4 : Type} {P : α0 → α1 → α2 → α3 → α4 → Prop} (a0 : α0) (a1 : α1) (a2 : α2) (a3 : α3) (a4 : α4) (h : P a0 a1 a2 a3 a4) : ∃ a0 a1 a2 a3 a4, P a0 a1 a2 a3 a4 := ⟨a0, a1, a2, a3, a4, h⟩
theorem xi12 {α0 α1 α2 α3 α4 α5 α6 α7 α8 α9 α10 α11 : Type} {P : α0 → α1 → α2 → α3 → α4 → α5 → α6 → α7 → α8 → α9 → α10 → α11 → Prop} (a0 : α0) (a1 : α1) (a2 : α2) (a3 : α3) (a4 : α4) (a5 : α5) (a6 : α6) (a7 : α7) (a8 : α8) (a9 : α9) (a10 : α10) (a11 : α11) (h : P a0 a1 a2 a3 a4 a5 a6 a7 a8 a9 a10 a11) : ∃ a0 a1 a2 a3 a4 a5 a6 a7 a8 a9 a10 a11, P a0 a1 a2 a3 a4 a5 a6 a7 a8 a9 a10 a11 := ⟨a0, a1, a2, a3, a4, a5, a6, a7, a8, a9, a10, a11, h⟩
theorem xi14 {α0 α1 α2 α3 α4 α5 α6 α7 α8 α9 α10 α11 α12 α13 : Type} {P : α0 → α1 → α2 → α3 → α4 → α5 → α6 → α7 → α8 → α9 → α10 → α11 → α12 → α13 → Prop} (a0 : α0) (a1 : α1) (a2 : α2) (a3 : α3) (a4 : α4) (a5 : α5) (a6 : α6) (a7 : α7) (a8 : α8) (a9 : α9) (a10 : α10) (a11 : α11) (a12 : α12) (a13 : α13) (h : P a0 a1 a2 a3 a4 a5 a6 a7 a8 a9 a10 a11 a12 a13) : ∃ a0 a1 a2 a3 a4 a5 a6 a7 a8 a9 a10 a11 a12 a13, P a0 a1 a2 a3 a4 a5 a6 a7 a8 a9 a10 a11 a12 a13 := ⟨a0, a1, a2, a3, a4, a5, a6, a7, a8, a9, a10, a11, a12, a13, h⟩
theorem j3 {J J' : Nat → (Str → Option Value) → Led → Prop} (e : J = J') {n : Nat} {m : Str → Option Value} {nw : Led} (h : J' n m nw) : J n m nw := e ▸ h
theorem aa4 {p0 p1 p2 p3 C : Prop} (h : p0 ∧ p1 ∧ p2 ∧ p3) (k : p0 → p1 → p2 → p3 → C) : C := k h.1 h.2.1 h.2.2.1 h.2.2.2
theorem aa5 {p0 p1 p2 p3 p4 C : Prop} (h : p0 ∧ p1 ∧ p2 ∧ p3 ∧ p4) (k : p0 → p1 → p2 → p3 → p4 → C) : C := k h.1 h.2.1 h.2.2.1 h.2.2.2.1 h.2.2.2.2
theorem aa8 {p0 p1 p2 p3 p4 p5 p6 p7 C : Prop} (h : p0 ∧ p1 ∧ p2 ∧ p3 ∧ p4 ∧ p5 ∧ p6 ∧ p7) (k : p0 → p1 → p2 → p3 → p4 → p5 → p6 → p7 → C) : C := k h.1 h.2.1 h.2.2.1 h.2.2.2.1 h.2.2.2.2.1 h.2.2.2.2.2.1 h.2.2.2.2.2.2.1 h.2.2.2.2.2.2.2
theorem aa9 {p0 p1 p2 p3 p4 p5 p6 p7 p8 C : Prop} (h : p0 ∧ p1 ∧ p2 ∧ p3 ∧ p4 ∧ p5 ∧ p6 ∧ p7 ∧ p8) (k : p0 → p1 → p2 → p3 → p4 → p5 → p6 → p7 → p8 → C) : C := k h.1 h.2.1 h.2.2.1 h.2.2.2.1 h.2.2.2.2.1 h.2.2.2.2.2.1 h.2.2.2.2.2.2.1 h.2.2.2.2.2.2.2.1 h.2.2.2.2.2.2.2.2
theorem aa10 {p0 p1 p2 p3 p4 p5 p6 p7 p8 p9 C : Prop} (h : p0 ∧ p1 ∧ p2 ∧ p3 ∧ p4 ∧ p5 ∧ p6 ∧ p7 ∧ p8 ∧ p9) (k : p0 → p1 → p2 → p3 → p4 → p5 → p6 → p7 → p8 → p9 → C) : C := k h.1 h.2.1 h.2.2.1 h.2.2.2.1 h.2.2.2.2.1 h.2.2.2.2.2.1 h.2.2.2.2.2.2.1 h.2.2.2.2.2.2.2.1 h.2.2.2.2.2.2.2.2.1 h.2.2.2.2.2.2.2.2.2
theorem aa14 {p0 p1 p2 p3 p4 p5 p6 p7 p8 p9 p10 p11 p12 p13 C : Prop} (h : p0 ∧ p1 ∧ p2 ∧ p3 ∧ p4 ∧ p5 ∧ p6 ∧ p7 ∧ p8 ∧ p9 ∧ p10 ∧ p11 ∧ p12 ∧ p13) (k : p0 → p1 → p2 → p3 → p4 → p5 → p6 → p7 → p8 → p9 → p10 → p11 → p12 → p13 → C) : C := k h.1 h.2.1 h.2.2.1 h.2.2.2.1 h.2.2.2.2.1 h.2.2.2.2.2.1 h.2.2.2.2.2.2.1 h.2.2.2.2.2.2.2.1 h.2.2.2.2.2.2.2.2.1 h.2.2.2.2.2.2.2.2.2.1 h.2.2.2.2.2.2.2.2.2.2.1 h.2.2.2.2.2.2.2.2.2.2.2.1 h.2.2.2.2.2.2.2.2.2.2.2.2.1 h.2.2.2.2.2.2.2.2.2.2.2.2.2
theorem aa17 {p0 p1 p2 p3 p4 p5 p6 p7 p8 p9 p10 p11 p12 p13 p14 p15 p16 C : Prop} (h : p0 ∧ p1 ∧ p2 ∧ p3 ∧ p4 ∧ p5 ∧ p6 ∧ p7 ∧ p8 ∧ p9 ∧ p10 ∧ p11 ∧ p12 ∧ p13 ∧ p14 ∧ p15 ∧ p16) (k : p0 → p1 → p2 → p3 → p4 → p5 → p6 → p7 → p8 → p9 → p10 → p11 → p12 → p13 → p14 → p15 → p16 → C) : C := k h.1 h.2.1 h.2.2.1 h.2.2.2.1 h.2.2.2.2.1 h.2.2.2.2.2.1 h.2.2.2.2.2.2.1 h.2.2.2.2.2.2.2.1 h.2.2.2.2.2.2.2.2.1 h.2.2.2.2.2.2.2.2.2.1 h.2.2.2.2.2.2.2.2.2.2.1 h.2.2.2.2.2.2.2.2.2.2.2.1 h.2.2.2.2.2.2.2.2.2.2.2.2.1 h.2.2.2.2.2.2.2.2.2.2.2.2.2.1 h.2.2.2.2.2.2.2.2.2.2.2.2.2.2.1 h.2.2.2.2.2.2.2.2.2.2.2.2.2.2.2.1 h.2.2.2.2.2.2.2.2.2.2.2.2.2.2.2.2
theorem expo1 {g h : Heap} {L : Addr} {m : Str → Option Value} {x0 : Str} {v0 : Value} {C : Prop} (F : Fr g L h m) (e0 : m x0 = some v0) (k : let M := (fun y => if y = x0 then some v0 else m y); Fr g L h M → C) : C := by
  refine k ?_
  rw [expose e0] at F
  exact F
theorem expo2 {g h : Heap} {L : Addr} {m : Str → Option Value} {x0 x1 : Str} {v0 v1 : Value} {C : Prop} (F : Fr g L h m) (e0 : m x0 = some v0) (e1 : m x1 = some v1) (k : let M := (fun y => if y = x0 then some v0 else (fun y => if y = x1 then some v1 else m y) y); Fr g L h M → C) : C := by
  refine k ?_
  rw [expose e0, expose e1] at F
  exact F
theorem expo3 {g h : Heap} {L : Addr} {m : Str → Option Value} {x0 x1 x2 : Str} {v0 v1 v2 : Value} {C : Prop} (F : Fr g L h m) (e0 : m x0 = some v0) (e1 : m x1 = some v1) (e2 : m x2 = some v2) (k : let M := (fun y => if y = x0 then some v0 else (fun y => if y = x1 then some v1 else (fun y => if y = x2 then some v2 else m y) y) y); Fr g L h M → C) : C := by
  refine k ?_
  rw [expose e0, expose e1, expose e2] at F
  exact F
theorem expo4 {g h : Heap} {L : Addr} {m : Str → Option Value} {x0 x1 x2 x3 : Str} {v0 v1 v2 v3 : Value} {C : Prop} (F : Fr g L h m) (e0 : m x0 = some v0) (e1 : m x1 = some v1) (e2 : m x2 = some v2) (e3 : m x3 = some v3) (k : let M := (fun y => if y = x0 then some v0 else (fun y => if y = x1 then some v1 else (fun y => if y = x2 then some v2 else (fun y => if y = x3 then some v3 else m y) y) y) y); Fr g L h M → C) : C := by
  refine k ?_
  rw [expose e0, expose e1, expose e2, expose e3] at F
  exact F
theorem expo5 {g h : Heap} {L : Addr} {m : Str → Option Value} {x0 x1 x2 x3 x4 : Str} {v0 v1 v2 v3 v4 : Value} {C : Prop} (F : Fr g L h m) (e0 : m x0 = some v0) (e1 : m x1 = some v1) (e2 : m x2 = some v2) (e3 : m x3 = some v3) (e4 : m x4 = some v4) (k : let M := (fun y => if y = x0 then some v0 else (fun y => if y = x1 then some v1 else (fun y => if y = x2 then some v2 else (fun y => if y = x3 then some v3 else (fun y => if y = x4 then some v4 else m y) y) y) y) y); Fr g L h M → C) : C := by
  refine k ?_
  rw [expose e0, expose e1, expose e2, expose e3, expose e4] at F
  exact F
theorem expo6 {g h : Heap} {L : Addr} {m : Str → Option Value} {x0 x1 x2 x3 x4 x5 : Str} {v0 v1 v2 v3 v4 v5 : Value} {C : Prop} (F : Fr g L h m) (e0 : m x0 = some v0) (e1 : m x1 = some v1) (e2 : m x2 = some v2) (e3 : m x3 = some v3) (e4 : m x4 = some v4) (e5 : m x5 = some v5) (k : let M := (fun y => if y = x0 then some v0 else (fun y => if y = x1 then some v1 else (fun y => if y = x2 then some v2 else (fun y => if y = x3 then some v3 else (fun y => if y = x4 then some v4 else (fun y => if y = x5 then some v5 else m y) y) y) y) y) y); Fr g L h M → C) : C := by
  refine k ?_
  rw [expose e0, expose e1, expose e2, expose e3, expose e4, expose e5] at F
  exact F
theorem expo7 {g h : Heap} {L : Addr} {m : Str → Option Value} {x0 x1 x2 x3 x4 x5 x6 : Str} {v0 v1 v2 v3 v4 v5 v6 : Value} {C : Prop} (F : Fr g L h m) (e0 : m x0 = some v0) (e1 : m x1 = some v1) (e2 : m x2 = some v2) (e3 : m x3 = some v3) (e4 : m x4 = some v4) (e5 : m x5 = some v5) (e6 : m x6 = some v6) (k : let M := (fun y => if y = x0 then some v0 else (fun y => if y = x1 then some v1 else (fun y => if y = x2 then some v2 else (fun y => if y = x3 then some v3 else (fun y => if y = x4 then some v4 else (fun y => if y = x5 then some v5 else (fun y => if y = x6 then some v6 else m y) y) y) y) y) y) y); Fr g L h M → C) : C := by
  refine k ?_
  rw [expose e0, expose e1, expose e2, expose e3, expose e4, expose e5, expose e6] at F
  exact F
theorem expi1 {g h : Heap} {L : Addr} {m : Str → Option Value} {x x0 : Str} {v v0 : Value} {C : Prop} (F : Fr g L h (fun y => if y = x then some v else m y)) (e0 : m x0 = some v0) (k : let M := fun y => if y = x then some v else (fun y => if y = x0 then some v0 else m y) y; Fr g L h M → C) : C := by
  refine k ?_
  rw [expose e0] at F
  exact F
theorem expi2 {g h : Heap} {L : Addr} {m : Str → Option Value} {x x0 x1 : Str} {v v0 v1 : Value} {C : Prop} (F : Fr g L h (fun y => if y = x then some v else m y)) (e0 : m x0 = some v0) (e1 : m x1 = some v1) (k : let M := fun y => if y = x then some v else (fun y => if y = x0 then some v0 else (fun y => if y = x1 then some v1 else m y) y) y; Fr g L h M → C) : C := by
  refine k ?_
  rw [expose e0, expose e1] at F
  exact F
theorem expi3 {g h : Heap} {L : Addr} {m : Str → Option Value} {x x0 x1 x2 : Str} {v v0 v1 v2 : Value} {C : Prop} (F : Fr g L h (fun y => if y = x then some v else m y)) (e0 : m x0 = some v0) (e1 : m x1 = some v1) (e2 : m x2 = some v2) (k : let M := fun y => if y = x then some v else (fun y => if y = x0 then some v0 else (fun y => if y = x1 then some v1 else (fun y => if y = x2 then some v2 else m y) y) y) y; Fr g L h M → C) : C := by
  refine k ?_
  rw [expose e0, expose e1, expose e2] at F
  exact F
theorem expi4 {g h : Heap} {L : Addr} {m : Str → Option Value} {x x0 x1 x2 x3 : Str} {v v0 v1 v2 v3 : Value} {C : Prop} (F : Fr g L h (fun y => if y = x then some v else m y)) (e0 : m x0 = some v0) (e1 : m x1 = some v1) (e2 : m x2 = some v2) (e3 : m x3 = some v3) (k : let M := fun y => if y = x then some v else (fun y => if y = x0 then some v0 else (fun y => if y = x1 then some v1 else (fun y => if y = x2 then some v2 else (fun y => if y = x3 then some v3 else m y) y) y) y) y; Fr g L h M → C) : C := by
  refine k ?_
  rw [expose e0, expose e1, expose e2, expose e3] at F
  exact F
theorem expi5 {g h : Heap} {L : Addr} {m : Str → Option Value} {x x0 x1 x2 x3 x4 : Str} {v v0 v1 v2 v3 v4 : Value} {C : Prop} (F : Fr g L h (fun y => if y = x then some v else m y)) (e0 : m x0 = some v0) (e1 : m x1 = some v1) (e2 : m x2 = some v2) (e3 : m x3 = some v3) (e4 : m x4 = some v4) (k : let M := fun y => if y = x then some v else (fun y => if y = x0 then some v0 else (fun y => if y = x1 then some v1 else (fun y => if y = x2 then some v2 else (fun y => if y = x3 then some v3 else (fun y => if y = x4 then some v4 else m y) y) y) y) y) y; Fr g L h M → C) : C := by
  refine k ?_
  rw [expose e0, expose e1, expose e2, expose e3, expose e4] at F
  exact F
end
/-! contracts by their shape -/
noncomputable abbrev T3 (Post : Value → Led → Prop) (P1 P2 P3 : Tok → Value) : Prop := ∀ r own, Post r own → ∃ D t1 t2 t3 n, r = .ref D ∧ own = [(D, oTup #[P1 t1, P2 t2, P3 t3] n)]
noncomputable abbrev V1 (Post : Value → Led → Prop) (P : Tok → Value) : Prop := ∀ r own, Post r own → ∃ t, r = P t ∧ own = []
noncomputable abbrev M1 (Post : Value → Led → Prop) (v : Value) (O : Nat → Led) : Prop := ∀ r own, Post r own → ∃ n, r = v ∧ own = O n
theorem t3f {a b c : UInt64} : T3 (RetF3 a b c) (.float a) (.float b) (.float c) := by
  rintro r own ⟨D, x, y, z, t1, t2, t3, n, e1, e2, rfl, rfl, rfl⟩
  exact ⟨D, t1, t2, t3, n, e1, e2⟩
theorem t3i {a b c : Int} : T3 (RetI3 a b c) (.int a) (.int b) (.int c) := by
  rintro r own ⟨D, x, y, z, t1, t2, t3, n, e1, e2, rfl, rfl, rfl⟩
  exact ⟨D, t1, t2, t3, n, e1, e2⟩
theorem v1f {a : UInt64} : V1 (RetF a) (.float a) := by
  rintro r own ⟨x, t, e1, e2, rfl⟩
  exact ⟨t, e1, e2⟩
theorem v1g {P : Tok → Value} : V1 (fun r own => ∃ t', r = P t' ∧ own = []) P := fun _ _ h => h
theorem v1c {v : Value} : V1 (fun r own => r = v ∧ own = []) (fun _ => v) := fun _ _ h => ⟨0, h⟩
theorem m1g {v : Value} {O : Nat → Led} : M1 (fun r nw => ∃ n', r = v ∧ nw = O n') v O := fun _ _ h => h
theorem m1c {v : Value} {O : Led} : M1 (fun r nw => r = v ∧ nw = O) v (fun _ => O) := fun _ _ h => ⟨0, h⟩
section
variable {w : World} {p : Program} {loose : List Str} {mean : ExcName → Option Value} {mg mb : Str → Option Value} {f : Addr} {vs : List Value} {need : Nat} {news : Led} {Post : Value → Led → Prop} {P P1 P2 P3 : Tok → Value} {v : Value} {O : Nat → Led}
  {dp un : Nat} {gd : Option (List Code)} {cn : Str} {cs : Scope} {a : Addr} {ccd : Value} {cl : List (Str × Addr)} {outer : List Env} {A₀ : Around} {base h₀ : Heap} {L : Addr} {m : Str → Option Value} {s : Shared} {Q E : Value → Shared → Prop}
theorem go3 (F : Fr h₀ L s.heap m) (N : News h₀ L s.heap news) (T : Top p loose mean mg mb h₀) (c : CT w p loose mean mg mb f vs need news Post) (t : T3 Post P1 P2 P3)
    (B : Below A₀ base outer h₀) (X : (hd.heap_39 w.params).In h₀) (hk : cs.kind = .function) (hd : dp + need < recursionLimit) (hu : un + 200 + 8 * need < cLine)
    (h : ∀ D t1 t2 t3 n h' tk', Fr h₀ L h' m → News h₀ L h' ((D, oTup #[P1 t1, P2 t2, P3 t3] n) :: news) → AllLt D news → Q (.ref D) { s with heap := h', toks := tk' }) :
    wpAny (model pg w) (ktrTop dp un gd cn cs L a ccd cl outer) (call (.ref f) vs) Q E s := by
  refine c dp un gd cn cs a ccd cl outer A₀ base h₀ L m s Q E B F X N T hk hd hu fun r own h' tk' F' N' ho hP => ?_
  obtain ⟨D, t1, t2, t3, n, rfl, rfl⟩ := t r own hP
  exact h D t1 t2 t3 n h' tk' F' N' (allLt_of (ho _ (.head _)))
theorem goV (F : Fr h₀ L s.heap m) (N : News h₀ L s.heap news) (T : Top p loose mean mg mb h₀) (c : CT w p loose mean mg mb f vs need news Post) (t : V1 Post P)
    (B : Below A₀ base outer h₀) (X : (hd.heap_39 w.params).In h₀) (hk : cs.kind = .function) (hd : dp + need < recursionLimit) (hu : un + 200 + 8 * need < cLine)
    (h : ∀ t h' tk', Fr h₀ L h' m → News h₀ L h' news → Q (P t) { s with heap := h', toks := tk' }) :
    wpAny (model pg w) (ktrTop dp un gd cn cs L a ccd cl outer) (call (.ref f) vs) Q E s := by
  refine c dp un gd cn cs a ccd cl outer A₀ base h₀ L m s Q E B F X N T hk hd hu fun r own h' tk' F' N' ho hP => ?_
  obtain ⟨t1, rfl, rfl⟩ := t r own hP
  exact h t1 h' tk' F' N'
theorem goM (F : Fr h₀ L s.heap m) (N : News h₀ L s.heap news) (T : Top p loose mean mg mb h₀) (c : CTM w p loose mean mg mb f vs need news Post) (t : M1 Post v O)
    (B : Below A₀ base outer h₀) (X : (hd.heap_39 w.params).In h₀) (hk : cs.kind = .function) (hd : dp + need < recursionLimit) (hu : un + 200 + 8 * need < cLine)
    (h : ∀ n h' tk', Fr h₀ L h' m → News h₀ L h' (O n) → Q v { s with heap := h', toks := tk' }) :
    wpAny (model pg w) (ktrTop dp un gd cn cs L a ccd cl outer) (call (.ref f) vs) Q E s := by
  refine c dp un gd cn cs a ccd cl outer A₀ base h₀ L m s Q E B F X N T hk hd hu fun r own h' tk' F' N' hP => ?_
  obtain ⟨n, rfl, rfl⟩ := t r own hP
  exact h n h' tk' F' N'
end
end
section
/-- one kind more -/
noncomputable def kNext (k x : Int) : Int := Int.fmod (k + 1 + Int.fmod x 2) 3
/-- the kinds behind the first two and the last one -/
noncomputable def kGo (ks : List Int) (k : Int) : List Int → List Int × Int
  | [] => (ks, k)
  | x :: r => kGo (ks ++ [k]) (kNext k x) r
theorem kGo_snoc (r : List Int) (x : Int) : ∀ ks k, kGo ks k (r ++ [x]) = ((kGo ks k r).1 ++ [(kGo ks k r).2], kNext (kGo ks k r).2 x) := by
  induction r with
  | nil => intro ks k; rfl
  | cons y r ih => intro ks k; exact ih _ _
theorem kGo_take {ns : List Int} {i : Nat} {x : Int} (h : ns[i]? = some x) (ks : List Int) (k : Int) :
    kGo ks k (ns.take (i + 1)) = ((kGo ks k (ns.take i)).1 ++ [(kGo ks k (ns.take i)).2], kNext (kGo ks k (ns.take i)).2 x) := by
  rw [List.take_add_one, h]
  exact kGo_snoc _ _ _ _
theorem kGo_len (r : List Int) : ∀ ks k, (kGo ks k r).1.length = ks.length + r.length := by
  induction r with
  | nil => intro ks k; rfl
  | cons y r ih => intro ks k; show (kGo _ _ r).1.length = _; rw [ih]; simp; exact linn [_, _] [] (.a (.a (.v 0) (.c 1)) (.v 1)) (.a (.v 0) (.a (.v 1) (.c 1))) .n (by kernel_rfl)
/-- all kinds -/
noncomputable def kinds (ns : List Int) : List Int :=
  if (kGo [0, 1] 2 ns).2 = 0 then (kGo [0, 1] 2 ns).1 ++ [(kGo [0, 1] 2 ns).2] ++ [1 + Int.fmod (Int.fdiv (ns.headD 0) 2) 2] else (kGo [0, 1] 2 ns).1 ++ [(kGo [0, 1] 2 ns).2]
theorem kinds_len (ns : List Int) (h1 : 4 ≤ ns.length) (h2 : ns.length ≤ 6) : 7 ≤ (kinds ns).length ∧ (kinds ns).length ≤ 10 := by
  have h := kGo_len ns [0, 1] 2
  unfold kinds
  simp only [List.length_cons, List.length_nil] at h
  split <;> simp only [List.length_append, List.length_cons, List.length_nil] <;> (first | exact ⟨Nat.not_lt.mp (fun u9 => lin [_, _] [] (.l 1 (.a (.a (.a (.v 1) (.c (0 + 1))) (.c (0 + 1))) (.c 1)) (.c 7) (.l 1 (.c 4) (.v 0) (.e (-1) (.v 1) (.a (.c ((0 + 1) + 1)) (.v 0)) .n))) (by kernel_rfl) u9 h1 h), Nat.not_lt.mp (fun u9 => lin [_, _] [] (.l 1 (.a (.c 10) (.c 1)) (.a (.a (.v 1) (.c (0 + 1))) (.c (0 + 1))) (.l 1 (.v 0) (.c 6) (.e 1 (.v 1) (.a (.c ((0 + 1) + 1)) (.v 0)) .n))) (by kernel_rfl) u9 h2 h)⟩ | exact ⟨Nat.not_lt.mp (fun u9 => lin [_, _] [] (.l 1 (.a (.a (.v 1) (.c (0 + 1))) (.c 1)) (.c 7) (.l 1 (.c 4) (.v 0) (.e (-1) (.v 1) (.a (.c ((0 + 1) + 1)) (.v 0)) .n))) (by kernel_rfl) u9 h1 h), Nat.not_lt.mp (fun u9 => lin [_, _] [] (.l 1 (.a (.c 10) (.c 1)) (.a (.v 1) (.c (0 + 1))) (.l 1 (.v 0) (.c 6) (.e 1 (.v 1) (.a (.c ((0 + 1) + 1)) (.v 0)) .n))) (by kernel_rfl) u9 h2 h)⟩)
theorem kNext_tri (k x : Int) : Tri (kNext k x) := by unfold kNext Tri; have := Int.fmod_eq_emod_of_nonneg (k + 1 + Int.fmod x 2) (b := 3) (by decide); lia
theorem kGo_tri (r : List Int) : ∀ ks k, (∀ x ∈ ks, Tri x) → Tri k → (∀ x ∈ (kGo ks k r).1, Tri x) ∧ Tri (kGo ks k r).2 := by
  induction r with
  | nil => intro ks k h1 h2; exact ⟨h1, h2⟩
  | cons y r ih =>
    intro ks k h1 h2
    refine ih _ _ (fun x hx => ?_) (kNext_tri _ _)
    rcases List.mem_append.mp hx with hx | hx
    · exact h1 x hx
    · rw [List.mem_singleton.mp hx]; exact h2
theorem kinds_tri (ns : List Int) : ∀ k ∈ kinds ns, Tri k := by
  have h := kGo_tri ns [0, 1] 2 (by intro x hx; unfold Tri; simp at hx; exact Or.elim hx (fun q0 => Or.inl (linz [] [_] (.v 0) (.i 0) (.E (-1) (.v 0) (.i 0) .n) (by kernel_rfl) q0)) (fun q0 => Or.inr (Or.inl (linz [] [_] (.v 0) (.i 1) (.E (-1) (.v 0) (.i 1) .n) (by kernel_rfl) q0)))) (by unfold Tri; exact Or.inr (Or.inr (linz [] [] (.i 2) (.i 2) .n (by kernel_rfl))))
  intro k hk
  unfold kinds at hk
  split at hk <;> simp only [List.mem_append, List.mem_singleton] at hk
  · rcases hk with (hk | hk) | hk
    · exact h.1 k hk
    · rw [hk]; exact h.2
    · rw [hk]; unfold Tri; have := Int.fmod_eq_emod_of_nonneg ((ns.headD 0).fdiv 2) (b := 2) (by decide); lia
  · rcases hk with hk | hk
    · exact h.1 k hk
    · rw [hk]; exact h.2
/-- where the ring begins -/
noncomputable def ringAt (ns : List Int) : Nat := (Int.fmod ns.sum ((kinds ns).length : Int)).toNat
/-- the ring's kinds -/
noncomputable def ring (ns : List Int) : List Int := (kinds ns).drop (ringAt ns) ++ (kinds ns).take (ringAt ns)
noncomputable def redOf (ns : List Int) : Int := 9 + ((ns.getD 1 0).fdiv 2).fmod 8
noncomputable def greenOf (ns : List Int) : Int := ((ns.getD 2 0).fdiv 2).fmod 17
noncomputable def blueOf (ns : List Int) : Int := ((ns.getD 3 0).fdiv 2).fmod 9
noncomputable abbrev RetRing (ns : List Int) (r : Value) (own : Led) : Prop := ∃ D T0 T1 T2 x y z n0 n1 n2 n, r = .ref D ∧ x ≠ 0 ∧ y ≠ 0 ∧ z ≠ 0 ∧ x ≠ y ∧ x ≠ z ∧ y ≠ z ∧ own = [(D, oLst ((ring ns).map (kindRef T0 T1 T2)) n), (T0, oTup #[.int (redOf ns) x, .int (greenOf ns) y, .int (blueOf ns) z] n0), (T1, oTup #[.int (blueOf ns) z, .int (redOf ns) x, .int (greenOf ns) y] n1), (T2, oTup #[.int (greenOf ns) y, .int (blueOf ns) z, .int (redOf ns) x] n2)]
end
section
/-- a side of the line: its pieces, the depths of its labels, the kinds of the ring behind its first lamp -/
structure Blk where
  pcs : List Pce
  deps : List Int
  kds : List Int
noncomputable def endK (b : Blk) : Int := b.kds.getLastD 0
/-- the lamps that are left -/
noncomputable def lsOf (x0 : Int) (bs : List Blk) : List Int := x0 :: bs.map endK
/-- all depths -/
noncomputable def deepOf (bs : List Blk) : List Int := bs.flatMap (·.deps)
noncomputable def merge (a b : Blk) : Blk := ⟨.op :: (a.pcs ++ b.pcs ++ [.cl]), (a.deps ++ b.deps).map (· + 1), a.kds ++ b.kds⟩
/-- the sides when lamp i + 1 is cut off -/
noncomputable def cutI : Nat → List Blk → List Blk
  | 0, a :: b :: r => merge a b :: r
  | 0, l => l
  | _ + 1, [] => []
  | i + 1, a :: r => a :: cutI i r
noncomputable abbrev cutB (bs : List Blk) (i : Nat) : List Blk := cutI i bs
/-- where the sides lie in the ring -/
noncomputable def spans : Nat → List Blk → List (Nat × Nat)
  | _, [] => []
  | s, b :: r => (s, b.deps.length) :: spans (s + b.deps.length) r
theorem cutB_len : ∀ (bs : List Blk) (i : Nat), i + 1 < bs.length → (cutB bs i).length + 1 = bs.length
  | a :: b :: r, 0, _ => rfl
  | a :: r, i + 1, h => by
    show (cutB r i).length + 1 + 1 = r.length + 1
    rw [cutB_len r i (by simpa using h)]
  | [], _, h => absurd h (by simp)
  | [a], 0, h => absurd h (by simp)
theorem spans_len (s : Nat) (bs : List Blk) : (spans s bs).length = bs.length := by
  induction bs generalizing s with
  | nil => rfl
  | cons b r ih => simp [spans, ih]
theorem endK_merge (a b : Blk) (h : b.kds ≠ []) : endK (merge a b) = endK b := by
  unfold endK merge
  show (a.kds ++ b.kds).getLastD 0 = _
  rw [List.getLastD_eq_getLast?, List.getLastD_eq_getLast?, List.getLast?_append]
  cases hb : b.kds.getLast? with
  | none => rw [List.getLast?_eq_none_iff] at hb; exact absurd hb h
  | some x => rfl
theorem map_cut : ∀ (bs : List Blk) (i : Nat), i + 1 < bs.length → (∀ b ∈ bs, b.kds ≠ []) → (cutB bs i).map endK = (bs.map endK).eraseIdx i
  | a :: b :: r, 0, _, hk => by
    show endK (merge a b) :: r.map endK = _
    rw [endK_merge a b (hk b (.tail _ (.head _)))]
    rfl
  | a :: r, i + 1, h, hk => by
    show endK a :: (cutB r i).map endK = _
    rw [map_cut r i (by simpa using h) fun b hb => hk b (.tail _ hb)]
    rfl
  | [], _, h, _ => absurd h (by simp)
  | [a], 0, h, _ => absurd h (by simp)
theorem ls_cut (x0 : Int) (bs : List Blk) (i : Nat) (h : i + 1 < bs.length) (hk : ∀ b ∈ bs, b.kds ≠ []) : lsOf x0 (cutB bs i) = (lsOf x0 bs).eraseIdx (i + 1) := by
  unfold lsOf
  rw [map_cut bs i h hk]
  rfl
theorem cut_set {α : Type} (f : α → Blk → Prop) : ∀ (bs : List Blk) (vs : List α) (i : Nat) (v : α), Paired f vs bs → i + 1 < bs.length → (∀ a b, bs[i]? = some a → bs[i + 1]? = some b → f v (merge a b)) → Paired f ((vs.set i v).eraseIdx (i + 1)) (cutB bs i)
  | a :: b :: r, vs, 0, v, h, _, hv => by
    cases h with | cons h1 h =>
    cases h with | cons h2 h =>
    exact .cons (hv a b rfl rfl) h
  | a :: r, vs, i + 1, v, h, hl, hv => by
    cases h with | cons h1 h =>
    exact .cons h1 (cut_set f r _ i v h (by simpa using hl) fun a b ha hb => hv a b ha hb)
  | [], _, _, _, _, h, _ => absurd h (by simp)
  | [a], _, 0, _, _, h, _ => absurd h (by simp)
theorem span_cut {α : Type} (f : α → Nat × Nat → Prop) : ∀ (bs : List Blk) (s : Nat) (vs : List α) (i : Nat) (v : α), Paired f vs (spans s bs) → i + 1 < bs.length →
    (∀ p q, (spans s bs)[i]? = some p → (spans s bs)[i + 1]? = some q → q.1 = p.1 + p.2 → f v (p.1, p.2 + q.2)) → Paired f (vs.take i ++ [v] ++ vs.drop (i + 2)) (spans s (cutB bs i))
  | a :: b :: r, s, vs, 0, v, h, _, hv => by
    cases h with | cons h1 h =>
    cases h with | cons h2 h =>
    have e : spans s (cutB (a :: b :: r) 0) = (s, (merge a b).deps.length) :: spans (s + (merge a b).deps.length) r := rfl
    have e2 : (merge a b).deps.length = a.deps.length + b.deps.length := by simp [merge]
    rw [e, e2, ← Nat.add_assoc]
    refine .cons (hv (s, a.deps.length) (s + a.deps.length, b.deps.length) rfl rfl rfl) ?_
    exact h
  | a :: r, s, vs, i + 1, v, h, hl, hv => by
    cases h with | cons h1 h =>
    exact .cons h1 (span_cut f r _ _ i v h (by simpa using hl) fun p q hp hq => hv p q hp hq)
  | [], _, _, _, _, _, h, _ => absurd h (by simp)
  | [a], _, _, 0, _, _, h, _ => absurd h (by simp)
/-- one more at each place of the span -/
noncomputable def bump (l : List Int) (s n : Nat) : List Int := l.take s ++ ((l.drop s).take n).map (· + 1) ++ l.drop (s + n)
theorem deep_cut : ∀ (bs : List Blk) (i s : Nat) (pre : List Int), pre.length = s → i + 1 < bs.length → ∀ p q, (spans s bs)[i]? = some p → (spans s bs)[i + 1]? = some q → pre ++ deepOf (cutB bs i) = bump (pre ++ deepOf bs) p.1 (p.2 + q.2)
  | a :: b :: r, 0, s, pre, hs, _, p, q, hp, hq => by
    cases hp; cases hq
    show pre ++ ((a.deps ++ b.deps).map (· + 1) ++ deepOf r) = bump (pre ++ (a.deps ++ (b.deps ++ deepOf r))) s (a.deps.length + b.deps.length)
    unfold bump
    subst hs
    have e1 : (pre ++ (a.deps ++ (b.deps ++ deepOf r))).drop pre.length = a.deps ++ b.deps ++ deepOf r := by simp
    have e2 : (pre ++ (a.deps ++ (b.deps ++ deepOf r))).drop (pre.length + (a.deps.length + b.deps.length)) = deepOf r := by
      rw [← List.drop_drop, e1, ← List.length_append]
      simp
    rw [e1, e2, List.append_assoc]
    have e3 : (a.deps ++ b.deps ++ deepOf r).take (a.deps.length + b.deps.length) = a.deps ++ b.deps := by rw [← List.length_append, List.take_left]
    rw [e3, List.take_left]
  | a :: r, i + 1, s, pre, hs, hl, p, q, hp, hq => by
    have := deep_cut r i (s + a.deps.length) (pre ++ a.deps) (by simp [hs]) (by simpa using hl) p q hp hq
    show pre ++ (a.deps ++ deepOf (cutB r i)) = bump (pre ++ (a.deps ++ deepOf r)) p.1 (p.2 + q.2)
    rw [← List.append_assoc, ← List.append_assoc]
    exact this
  | [], _, _, _, _, h, _, _, _, _ => absurd h (by simp)
  | [a], 0, _, _, _, h, _, _, _, _ => absurd h (by simp)
end
section
noncomputable abbrev PcsAre (vs : List Value) (ps : List Pce) : Prop := Paired (fun v p => ∃ t, v = Value.bytes (pB p).toArray t) vs ps
noncomputable def SideOk (fz : Led) (v : Value) (b : Blk) : Prop := ∃ a vs c, v = .ref a ∧ (a, oLst vs c) ∈ fz ∧ PcsAre vs b.pcs
noncomputable def PlaceOk (fz : Led) (v : Value) (p : Nat × Nat) : Prop := ∃ a vs c, v = .ref a ∧ (a, oLst vs c) ∈ fz ∧ IntsAre vs ((List.range' p.1 p.2).map fun n : Nat => (n : Int))
theorem SideOk.mono {fz fz' : Led} {v : Value} {b : Blk} (hs : ∀ p ∈ fz, p ∈ fz') (h : SideOk fz v b) : SideOk fz' v b := by
  obtain ⟨a, vs, c, e, m, q⟩ := h; exact ⟨a, vs, c, e, hs _ m, q⟩
theorem PlaceOk.mono {fz fz' : Led} {v : Value} {p : Nat × Nat} (hs : ∀ p ∈ fz, p ∈ fz') (h : PlaceOk fz v p) : PlaceOk fz' v p := by
  obtain ⟨a, vs, c, e, m, q⟩ := h; exact ⟨a, vs, c, e, hs _ m, q⟩
theorem paired_mono {α β : Type} {F G : α → β → Prop} (h : ∀ a b, F a b → G a b) {l₁ : List α} {l₂ : List β} (p : Paired F l₁ l₂) : Paired G l₁ l₂ := by
  induction p with
  | nil => exact .nil
  | cons x _ ih => exact .cons (h _ _ x) ih
theorem paired_len {α β : Type} {F : α → β → Prop} {l₁ : List α} {l₂ : List β} (p : Paired F l₁ l₂) : l₁.length = l₂.length := by
  induction p with
  | nil => rfl
  | cons _ _ ih => rw [List.length_cons, List.length_cons, ih]
theorem paired_at {α β : Type} {F : α → β → Prop} {l₁ : List α} {l₂ : List β} (p : Paired F l₁ l₂) : ∀ {i : Nat} {b : β}, l₂[i]? = some b → ∃ a, l₁[i]? = some a ∧ F a b := by
  induction p with
  | nil => intro i b h; cases h
  | cons x _ ih =>
    intro i b h
    cases i with
    | zero => cases h; exact ⟨_, rfl, x⟩
    | succ i => exact ih h
theorem paired_app {α β : Type} {F : α → β → Prop} {l₁ l₁' : List α} {l₂ l₂' : List β} (p : Paired F l₁ l₂) (q : Paired F l₁' l₂') : Paired F (l₁ ++ l₁') (l₂ ++ l₂') := by
  induction p with
  | nil => exact q
  | cons x _ ih => exact .cons x ih
/-- the label of a place -/
noncomputable def labAt (ns : List Int) (k : Nat) : Fin 6 := ⟨(Int.fmod (Int.fdiv (ns.getD (k % ns.length) 0) 6) 6).toNat % 6, Nat.mod_lt _ (by decide)⟩
/-- the sides at first -/
noncomputable def blk0 (ns rg : List Int) (k : Nat) : Blk := ⟨[.lab (labAt ns k)], [0], [rg.getD (k + 1) 0]⟩
theorem lab_get (t0 t1 t2 t3 t4 t5 : Tok) (k : Int) (h0 : 0 ≤ k) (h1 : k < 6) :
    ∃ t, ([.bytes #[34, 40, 34] t0, .bytes #[34, 41, 34] t1, .bytes #[34, 97, 34] t2, .bytes #[34, 40, 40, 34] t3, .bytes #[34, 92, 34, 40, 34] t4, .bytes #[34, 92, 92, 41, 34] t5] : List Value)[k.toNat]? = some (.bytes (labB ⟨k.toNat % 6, Nat.mod_lt _ (by decide)⟩).toArray t) := by
  have : k = 0 ∨ k = 1 ∨ k = 2 ∨ k = 3 ∨ k = 4 ∨ k = 5 := by lia
  rcases this with rfl | rfl | rfl | rfl | rfl | rfl
  · exact ⟨t0, rfl⟩
  · exact ⟨t1, rfl⟩
  · exact ⟨t2, rfl⟩
  · exact ⟨t3, rfl⟩
  · exact ⟨t4, rfl⟩
  · exact ⟨t5, rfl⟩
end
section
noncomputable def isFree (ls : List Int) (k : Nat) : Bool := !decide (ls.getD (k - 1) 0 = ls.getD (k + 1) 0) && (ls.length == 3 || decide (1 < ls.count (ls.getD k 0)))
/-- the lamps that may be cut off, of the first i inner ones -/
noncomputable def freeTo (ls : List Int) (i : Nat) : List Int := (((List.range i).map (· + 1)).filter (isFree ls)).map fun k : Nat => (k : Int)
structure LsOk (ls : List Int) : Prop where
  two : 2 ≤ ls.length
  tri : ∀ x ∈ ls, Tri x
  adj : ∀ i, i + 1 < ls.length → ls.getD i 0 ≠ ls.getD (i + 1) 0
  ends : ls.getD 0 0 ≠ ls.getD (ls.length - 1) 0
  all : 3 ≤ ls.length → ∀ c, Tri c → c ∈ ls
noncomputable def depthsOf : Int → List Pce → List Int
  | _, [] => []
  | d, .op :: r => depthsOf (d + 1) r
  | d, .cl :: r => depthsOf (d - 1) r
  | d, .lab _ :: r => d :: depthsOf d r
noncomputable def net : List Pce → Int
  | [] => 0
  | .op :: r => net r + 1
  | .cl :: r => net r - 1
  | .lab _ :: r => net r
noncomputable def stepK (x δ d : Int) : Int := Int.fmod (x + (if Int.fmod d 2 = 0 then δ else -δ)) 3
noncomputable def walkK : Int → Int → List Int → List Int
  | _, _, [] => []
  | x, δ, d :: r => stepK x δ d :: walkK (stepK x δ d) δ r
structure BOk (x : Int) (b : Blk) : Prop where
  kne : b.kds ≠ []
  dep : depthsOf 0 b.pcs = b.deps
  nt : net b.pcs = 0
  wk : b.kds = walkK x (endK b - x) b.deps
noncomputable def Chain : Int → List Blk → Prop
  | _, [] => True
  | x, b :: r => BOk x b ∧ Chain (endK b) r
structure BInv (x0 : Int) (bs : List Blk) : Prop where
  ls : LsOk (lsOf x0 bs)
  ch : Chain x0 bs
theorem chain_kne : ∀ (bs : List Blk) (x : Int), Chain x bs → ∀ b ∈ bs, b.kds ≠ []
  | [], _, _, _, h => nomatch h
  | b :: r, _, h, c, hc => by
    rcases List.mem_cons.mp hc with rfl | hc
    · exact h.1.kne
    · exact chain_kne r _ h.2 c hc
theorem freeTo_succ (ls : List Int) (i : Nat) : freeTo ls (i + 1) = freeTo ls i ++ (if isFree ls (i + 1) then [((i + 1 : Nat) : Int)] else []) := by
  unfold freeTo
  rw [List.range_succ, List.map_append, List.filter_append, List.map_append]
  congr 1
  by_cases h : isFree ls (i + 1) = true
  · simp [h]
  · simp [h]
theorem freeTo_mem {ls : List Int} {i : Nat} {x : Int} (h : x ∈ freeTo ls i) : ∃ k : Nat, x = (k : Int) ∧ 1 ≤ k ∧ k ≤ i ∧ isFree ls k = true := by
  unfold freeTo at h
  obtain ⟨k, hk, rfl⟩ := List.mem_map.mp h
  obtain ⟨hk1, hk2⟩ := List.mem_filter.mp hk
  obtain ⟨j, hj, rfl⟩ := List.mem_map.mp hk1
  exact ⟨j + 1, rfl, by exact Nat.not_lt.mp (fun u9 => lin [_] [] (.l 1 (.a (.a (.v 0) (.c 1)) (.c 1)) (.c 1) .n) (by kernel_rfl) u9), by have := List.mem_range.mp hj; exact Nat.not_lt.mp (fun u9 => lin [_, _] [] (.l 1 (.a (.v 1) (.c 1)) (.a (.v 0) (.c 1)) (.l 1 (.a (.v 0) (.c 1)) (.v 1) .n)) (by kernel_rfl) u9 this), hk2⟩
theorem two_of {ls : List Int} {i j : Nat} (hij : i < j) (hj : j < ls.length) (e : ls.getD i 0 = ls.getD j 0) : 1 < ls.count (ls.getD j 0) := by
  have e1 : ls.getD i 0 = ls[i] := by rw [List.getD_eq_getElem?_getD, List.getElem?_eq_getElem (by exact Nat.not_le.mp (fun u9 => lin [_, _, _] [] (.l 1 (.v 2) (.v 0) (.l 1 (.a (.v 0) (.c 1)) (.v 1) (.l 1 (.a (.v 1) (.c 1)) (.v 2) .n))) (by kernel_rfl) u9 hij hj))]; rfl
  have e2 : ls.getD j 0 = ls[j] := by rw [List.getD_eq_getElem?_getD, List.getElem?_eq_getElem hj]; rfl
  have h1 : ls[j] ∈ ls.take j := by
    rw [← e2, ← e, e1]
    exact List.mem_iff_getElem.mpr ⟨i, by simp; exact Nat.not_le.mp (fun u9 => lin [_, _, _] [] (.l 1 (.v 2) (.v 0) (.l 1 (.a (.v 0) (.c 1)) (.v 1) (.e (-1) (.v 2) (.v 1) .n))) (by kernel_rfl) u9 hij (Nat.min_eq_left (Nat.not_lt.mp (fun u9 => lin [_, _] [] (.l 1 (.a (.v 1) (.c 1)) (.v 0) (.l 1 (.a (.v 0) (.c 1)) (.v 1) .n)) (by kernel_rfl) u9 hj)))), by simp⟩
  have h2 : ls[j] ∈ ls.drop j := by
    rw [List.drop_eq_getElem_cons hj]
    exact .head _
  rw [e2]
  have key : ∀ c, c ∈ ls.take j → c ∈ ls.drop j → 1 < ls.count c := by
    intro c k1 k2
    have e3 : ls.count c = (ls.take j).count c + (ls.drop j).count c := by rw [← List.count_append, List.take_append_drop]
    have := List.count_pos_iff.mpr k1
    have := List.count_pos_iff.mpr k2
    (rename_i w0; exact Nat.not_le.mp (fun u9 => lin [_, _, _] [] (.l 1 (.v 0) (.c 1) (.e (-1) (.v 0) (.a (.v 1) (.v 2)) (.l 1 (.a (.c 0) (.c 1)) (.v 1) (.l 1 (.a (.c 0) (.c 1)) (.v 2) .n)))) (by kernel_rfl) u9 e3 w0 this))
  exact key _ h1 h2
theorem free_ne {ls : List Int} (h : LsOk ls) (h3 : 3 ≤ ls.length) : freeTo ls (ls.length - 2) ≠ [] := by
  intro he
  have hn : ∀ k, 1 ≤ k → k + 1 < ls.length → isFree ls k = false := by
    intro k h1 h2
    cases hf : isFree ls k with
    | false => rfl
    | true =>
      have : ((k : Nat) : Int) ∈ freeTo ls (ls.length - 2) := by
        unfold freeTo
        refine List.mem_map.mpr ⟨k, List.mem_filter.mpr ⟨List.mem_map.mpr ⟨k - 1, List.mem_range.mpr (by exact Nat.not_le.mp (fun u9 => lin [_, _, _, _] [] (.l 1 (.v 2) (.v 3) (.l 1 (.a (.a (.v 1) (.c 1)) (.c 1)) (.v 0) (.e (-1) (.a (.v 2) (.c 2)) (.v 0) (.e 1 (.a (.v 3) (.c 1)) (.v 1) .n)))) (by kernel_rfl) u9 h2 (Nat.sub_add_cancel (Nat.not_lt.mp (fun u9 => lin [_] [] (.l 1 (.a (.v 0) (.c 1)) (.c 2) (.l 1 (.c 3) (.v 0) .n)) (by kernel_rfl) u9 h3))) (Nat.sub_add_cancel (Nat.not_lt.mp (fun u9 => lin [_] [] (.l 1 (.a (.v 0) (.c 1)) (.c 1) (.l 1 (.c 1) (.v 0) .n)) (by kernel_rfl) u9 h1))))), by exact linn [_, _] [] (.a (.v 1) (.c 1)) (.v 0) (.e (-1) (.a (.v 1) (.c 1)) (.v 0) .n) (by kernel_rfl) (Nat.sub_add_cancel (Nat.not_lt.mp (fun u9 => lin [_] [] (.l 1 (.a (.v 0) (.c 1)) (.c 1) (.l 1 (.c 1) (.v 0) .n)) (by kernel_rfl) u9 h1)))⟩, hf⟩, rfl⟩
      rw [he] at this
      cases this
  by_cases h4 : ls.length = 3
  · have := hn 1 (by exact Nat.not_lt.mp (fun u9 => lin [] [] (.l 1 (.a (.c 1) (.c 1)) (.c 1) .n) (by kernel_rfl) u9)) (by exact Nat.not_le.mp (fun u9 => lin [_] [] (.l 1 (.v 0) (.c (1 + 1)) (.e (-1) (.v 0) (.c 3) .n)) (by kernel_rfl) u9 h4))
    unfold isFree at this
    have he2 := h.ends
    rw [h4] at he2
    have h5 : (ls.length == 3) = true := by rw [beq_iff_eq]; exact h4
    rw [h5, decide_eq_false he2] at this
    cases this
  -- an inner lamp with unlike neighbours is the last of its kind
  have hu : ∀ k, 1 ≤ k → k + 1 < ls.length → ls.getD (k - 1) 0 ≠ ls.getD (k + 1) 0 → ∀ j, j < ls.length → ls.getD j 0 = ls.getD k 0 → j = k := by
    intro k h1 h2 hne j hj e
    have hf := hn k h1 h2
    unfold isFree at hf
    have h5 : (ls.length == 3) = false := by rw [beq_eq_false_iff_ne]; exact h4
    rw [h5, decide_eq_false hne] at hf
    simp only [Bool.not_false, Bool.false_or, Bool.true_and, decide_eq_false_iff_not] at hf
    rcases Nat.lt_trichotomy j k with hl | hl | hl
    · exact absurd (two_of hl (by exact Nat.not_le.mp (fun u9 => lin [_, _] [] (.l 1 (.v 1) (.v 0) (.l 1 (.a (.a (.v 0) (.c 1)) (.c 1)) (.v 1) .n)) (by kernel_rfl) u9 h2)) e) hf
    · exact hl
    · have := two_of hl hj e.symm
      rw [e] at this
      exact absurd this hf
  have tri : ∀ i, i < ls.length → Tri (ls.getD i 0) := fun i hi => tri_at h.tri hi
  -- there is one with unlike neighbours
  have hex : ∃ k, 1 ≤ k ∧ k + 1 < ls.length ∧ ls.getD (k - 1) 0 ≠ ls.getD (k + 1) 0 := by
    apply Classical.byContradiction
    intro hno
    have hlike : ∀ k, 1 ≤ k → k + 1 < ls.length → ls.getD (k - 1) 0 = ls.getD (k + 1) 0 := by
      intro k h1 h2
      apply Classical.byContradiction
      intro hne
      exact hno ⟨k, h1, h2, hne⟩
    have h2 : ∀ i, i < ls.length → ls.getD i 0 = ls.getD 0 0 ∨ ls.getD i 0 = ls.getD 1 0 := by
      intro i
      induction i using Nat.strongRecOn with
      | _ i ih =>
        intro hi
        match i with
        | 0 => exact .inl rfl
        | 1 => exact .inr rfl
        | i + 2 =>
          have := hlike (i + 1) (by exact Nat.not_lt.mp (fun u9 => lin [_] [] (.l 1 (.a (.a (.v 0) (.c 1)) (.c 1)) (.c 1) .n) (by kernel_rfl) u9)) (by exact Nat.not_le.mp (fun u9 => lin [_, _] [] (.l 1 (.v 1) (.a (.a (.v 0) (.c 1)) (.c 1)) (.l 1 (.a (.a (.v 0) (.c 2)) (.c 1)) (.v 1) .n)) (by kernel_rfl) u9 hi))
          rw [show i + 1 - 1 = i by exact linn [_, _] [] (.v 0) (.v 1) (.e (-1) (.a (.v 0) (.c 1)) (.a (.v 1) (.c 1)) .n) (by kernel_rfl) (Nat.sub_add_cancel (Nat.not_lt.mp (fun u9 => lin [_] [] (.l 1 (.a (.a (.v 0) (.c 1)) (.c 1)) (.c 1) .n) (by kernel_rfl) u9))), show i + 1 + 1 = i + 2 by exact linn [_] [] (.a (.a (.v 0) (.c 1)) (.c 1)) (.a (.v 0) (.c 2)) .n (by kernel_rfl)] at this
          rw [← this]
          exact ih i (by exact Nat.not_le.mp (fun u9 => lin [_] [] (.l 1 (.a (.v 0) (.c 2)) (.v 0) .n) (by kernel_rfl) u9)) (by exact Nat.not_le.mp (fun u9 => lin [_, _] [] (.l 1 (.v 1) (.v 0) (.l 1 (.a (.a (.v 0) (.c 2)) (.c 1)) (.v 1) .n)) (by kernel_rfl) u9 hi))
    have t0 := tri 0 (by exact Nat.not_le.mp (fun u9 => lin [_] [] (.l 1 (.v 0) (.c 0) (.l 1 (.c 3) (.v 0) .n)) (by kernel_rfl) u9 h3))
    have t1 := tri 1 (by exact Nat.not_le.mp (fun u9 => lin [_] [] (.l 1 (.v 0) (.c 1) (.l 1 (.c 3) (.v 0) .n)) (by kernel_rfl) u9 h3))
    have hc : ∃ c, Tri c ∧ c ≠ ls.getD 0 0 ∧ c ≠ ls.getD 1 0 := by
      generalize ls.getD 0 0 = p at *
      generalize ls.getD 1 0 = q at *
      unfold Tri at *
      by_cases e0 : p ≠ 0 ∧ q ≠ 0
      · exact ⟨0, .inl rfl, by exact Or.elim (Int.lt_or_gt_of_ne e0.1) (fun q0 => fun u9 => lin [] [_] (.E 1 (.i 0) (.v 0) (.L 1 (.a (.v 0) (.i 1)) (.i 0) .n)) (by kernel_rfl) u9 q0) (fun q0 => fun u9 => lin [] [_] (.E (-1) (.i 0) (.v 0) (.L 1 (.a (.i 0) (.i 1)) (.v 0) .n)) (by kernel_rfl) u9 q0), by exact Or.elim (Int.lt_or_gt_of_ne e0.1) (fun q0 => Or.elim (Int.lt_or_gt_of_ne e0.2) (fun q2 => fun u9 => lin [] [_] (.E 1 (.i 0) (.v 0) (.L 1 (.a (.v 0) (.i 1)) (.i 0) .n)) (by kernel_rfl) u9 q2) (fun q2 => fun u9 => lin [] [_] (.E (-1) (.i 0) (.v 0) (.L 1 (.a (.i 0) (.i 1)) (.v 0) .n)) (by kernel_rfl) u9 q2)) (fun q0 => Or.elim (Int.lt_or_gt_of_ne e0.2) (fun q4 => fun u9 => lin [] [_] (.E 1 (.i 0) (.v 0) (.L 1 (.a (.v 0) (.i 1)) (.i 0) .n)) (by kernel_rfl) u9 q4) (fun q4 => fun u9 => lin [] [_] (.E (-1) (.i 0) (.v 0) (.L 1 (.a (.i 0) (.i 1)) (.v 0) .n)) (by kernel_rfl) u9 q4))⟩
      · by_cases e1 : p ≠ 1 ∧ q ≠ 1
        · exact ⟨1, .inr (.inl rfl), by exact Or.elim (Int.lt_or_gt_of_ne e1.1) (fun q0 => fun u9 => lin [] [_] (.E 1 (.i 1) (.v 0) (.L 1 (.a (.v 0) (.i 1)) (.i 1) .n)) (by kernel_rfl) u9 q0) (fun q0 => fun u9 => lin [] [_] (.E (-1) (.i 1) (.v 0) (.L 1 (.a (.i 1) (.i 1)) (.v 0) .n)) (by kernel_rfl) u9 q0), by exact Or.elim (Int.lt_or_gt_of_ne e1.1) (fun q0 => Or.elim (Int.lt_or_gt_of_ne e1.2) (fun q2 => fun u9 => lin [] [_] (.E 1 (.i 1) (.v 0) (.L 1 (.a (.v 0) (.i 1)) (.i 1) .n)) (by kernel_rfl) u9 q2) (fun q2 => fun u9 => lin [] [_] (.E (-1) (.i 1) (.v 0) (.L 1 (.a (.i 1) (.i 1)) (.v 0) .n)) (by kernel_rfl) u9 q2)) (fun q0 => Or.elim (Int.lt_or_gt_of_ne e1.2) (fun q4 => fun u9 => lin [] [_] (.E 1 (.i 1) (.v 0) (.L 1 (.a (.v 0) (.i 1)) (.i 1) .n)) (by kernel_rfl) u9 q4) (fun q4 => fun u9 => lin [] [_] (.E (-1) (.i 1) (.v 0) (.L 1 (.a (.i 1) (.i 1)) (.v 0) .n)) (by kernel_rfl) u9 q4))⟩
        · exact ⟨2, .inr (.inr rfl), by lia, by lia⟩
    obtain ⟨c, hc1, hc2, hc3⟩ := hc
    obtain ⟨i, hi, e⟩ := List.mem_iff_getElem.mp (h.all h3 c hc1)
    have e1 : ls.getD i 0 = c := by rw [List.getD_eq_getElem?_getD, List.getElem?_eq_getElem hi]; exact e
    rcases h2 i hi with q | q
    · exact hc2 (e1 ▸ q)
    · exact hc3 (e1 ▸ q)
  obtain ⟨k, k1, k2, hne⟩ := hex
  have uk := hu k k1 k2 hne
  have ak := h.adj (k - 1) (by exact Nat.not_le.mp (fun u9 => lin [_, _, _] [] (.l 1 (.v 1) (.a (.v 2) (.c 1)) (.l 1 (.a (.a (.v 0) (.c 1)) (.c 1)) (.v 1) (.e 1 (.a (.v 2) (.c 1)) (.v 0) .n))) (by kernel_rfl) u9 k2 (Nat.sub_add_cancel (Nat.not_lt.mp (fun u9 => lin [_] [] (.l 1 (.a (.v 0) (.c 1)) (.c 1) (.l 1 (.c 1) (.v 0) .n)) (by kernel_rfl) u9 k1)))))
  rw [show k - 1 + 1 = k by exact linn [_, _] [] (.a (.v 1) (.c 1)) (.v 0) (.e (-1) (.a (.v 1) (.c 1)) (.v 0) .n) (by kernel_rfl) (Nat.sub_add_cancel (Nat.not_lt.mp (fun u9 => lin [_] [] (.l 1 (.a (.v 0) (.c 1)) (.c 1) (.l 1 (.c 1) (.v 0) .n)) (by kernel_rfl) u9 k1)))] at ak
  have bk := h.adj k (by exact Nat.not_le.mp (fun u9 => lin [_, _] [] (.l 1 (.v 1) (.a (.v 0) (.c 1)) (.l 1 (.a (.a (.v 0) (.c 1)) (.c 1)) (.v 1) .n)) (by kernel_rfl) u9 k2))
  have tk := tri k (by exact Nat.not_le.mp (fun u9 => lin [_, _] [] (.l 1 (.v 1) (.v 0) (.l 1 (.a (.a (.v 0) (.c 1)) (.c 1)) (.v 1) .n)) (by kernel_rfl) u9 k2))
  have tk0 := tri (k - 1) (by exact Nat.not_le.mp (fun u9 => lin [_, _, _] [] (.l 1 (.v 1) (.v 2) (.l 1 (.a (.a (.v 0) (.c 1)) (.c 1)) (.v 1) (.e 1 (.a (.v 2) (.c 1)) (.v 0) .n))) (by kernel_rfl) u9 k2 (Nat.sub_add_cancel (Nat.not_lt.mp (fun u9 => lin [_] [] (.l 1 (.a (.v 0) (.c 1)) (.c 1) (.l 1 (.c 1) (.v 0) .n)) (by kernel_rfl) u9 k1)))))
  have tk1 := tri (k + 1) (by exact Nat.not_le.mp (fun u9 => lin [_, _] [] (.l 1 (.v 1) (.a (.v 0) (.c 1)) (.l 1 (.a (.a (.v 0) (.c 1)) (.c 1)) (.v 1) .n)) (by kernel_rfl) u9 k2))
  by_cases hr : k + 2 < ls.length
  · have ne2 : ls.getD k 0 ≠ ls.getD (k + 2) 0 := fun e => by have := uk (k + 2) hr e.symm; exact lin [_] [] (.e 1 (.a (.v 0) (.c 2)) (.v 0) .n) (by kernel_rfl) this
    have u1 := hu (k + 1) (by exact Nat.not_lt.mp (fun u9 => lin [_] [] (.l 1 (.a (.a (.v 0) (.c 1)) (.c 1)) (.c 1) .n) (by kernel_rfl) u9)) (by exact Nat.not_le.mp (fun u9 => lin [_, _] [] (.l 1 (.v 1) (.a (.a (.v 0) (.c 1)) (.c 1)) (.l 1 (.a (.a (.v 0) (.c 2)) (.c 1)) (.v 1) .n)) (by kernel_rfl) u9 hr)) (by rw [show k + 1 - 1 = k by exact linn [_, _] [] (.v 0) (.v 1) (.e (-1) (.a (.v 0) (.c 1)) (.a (.v 1) (.c 1)) .n) (by kernel_rfl) (Nat.sub_add_cancel (Nat.not_lt.mp (fun u9 => lin [_] [] (.l 1 (.a (.a (.v 0) (.c 1)) (.c 1)) (.c 1) .n) (by kernel_rfl) u9))), show k + 1 + 1 = k + 2 by exact linn [_] [] (.a (.a (.v 0) (.c 1)) (.c 1)) (.a (.v 0) (.c 2)) .n (by kernel_rfl)]; exact ne2)
    have t2 := tri (k + 2) hr
    have a2 := h.adj (k + 1) (by exact Nat.not_le.mp (fun u9 => lin [_, _] [] (.l 1 (.v 1) (.a (.a (.v 0) (.c 1)) (.c 1)) (.l 1 (.a (.a (.v 0) (.c 2)) (.c 1)) (.v 1) .n)) (by kernel_rfl) u9 hr))
    have e2 : ls.getD (k + 2) 0 = ls.getD (k - 1) 0 := by
      rw [show k + 1 + 1 = k + 2 by exact linn [_] [] (.a (.a (.v 0) (.c 1)) (.c 1)) (.a (.v 0) (.c 2)) .n (by kernel_rfl)] at a2
      unfold Tri at *
      lia
    have hend : ls.length = k + 3 := by
      apply Classical.byContradiction
      intro hl
      have h3' : k + 3 < ls.length := by exact Or.elim (Nat.lt_or_gt_of_ne hl) (fun q0 => Nat.not_le.mp (fun u9 => lin [_, _] [] (.l 0 (.v 1) (.a (.v 0) (.c 3)) (.l 1 (.a (.a (.v 0) (.c 2)) (.c 1)) (.v 1) (.l 1 (.a (.v 1) (.c 1)) (.a (.v 0) (.c 3)) .n))) (by kernel_rfl) u9 hr q0)) (fun q0 => Nat.not_le.mp (fun u9 => lin [_, _] [] (.l 1 (.v 1) (.a (.v 0) (.c 3)) (.l 1 (.a (.a (.v 0) (.c 3)) (.c 1)) (.v 1) .n)) (by kernel_rfl) u9 q0))
      have t3 := tri (k + 3) h3'
      have a3 := h.adj (k + 2) (by exact Or.elim (Nat.lt_or_gt_of_ne hl) (fun q0 => Nat.not_le.mp (fun u9 => lin [_, _] [] (.l 0 (.v 1) (.a (.a (.v 0) (.c 2)) (.c 1)) (.l 1 (.a (.a (.v 0) (.c 2)) (.c 1)) (.v 1) (.l 1 (.a (.v 1) (.c 1)) (.a (.v 0) (.c 3)) .n))) (by kernel_rfl) u9 hr q0)) (fun q0 => Nat.not_le.mp (fun u9 => lin [_, _] [] (.l 1 (.v 1) (.a (.a (.v 0) (.c 2)) (.c 1)) (.l 1 (.a (.a (.v 0) (.c 3)) (.c 1)) (.v 1) .n)) (by kernel_rfl) u9 q0)))
      rw [show k + 2 + 1 = k + 3 by exact linn [_] [] (.a (.a (.v 0) (.c 2)) (.c 1)) (.a (.v 0) (.c 3)) .n (by kernel_rfl)] at a3
      have n1 : ls.getD (k + 3) 0 ≠ ls.getD k 0 := fun e => by have := uk (k + 3) h3' e; exact lin [_] [] (.e 1 (.a (.v 0) (.c 3)) (.v 0) .n) (by kernel_rfl) this
      have n2 : ls.getD (k + 3) 0 ≠ ls.getD (k + 1) 0 := fun e => by have := u1 (k + 3) h3' e; exact lin [_] [] (.e 1 (.a (.v 0) (.c 3)) (.a (.v 0) (.c 1)) .n) (by kernel_rfl) this
      unfold Tri at *
      lia
    by_cases hk0 : k = 1
    · have := h.ends
      rw [hend, hk0] at this
      rw [hk0] at e2
      exact this e2.symm
    · have n0 : ls.getD (k - 1 - 1) 0 ≠ ls.getD (k - 1 + 1) 0 := fun e => by
        rw [show k - 1 + 1 = k by exact Or.elim (Nat.lt_or_gt_of_ne h4) (fun q0 => linn [_, _] [] (.a (.v 1) (.c 1)) (.v 0) (.e (-1) (.a (.v 1) (.c 1)) (.v 0) .n) (by kernel_rfl) (Nat.sub_add_cancel (Nat.not_lt.mp (fun u9 => lin [_, _] [] (.l 0 (.a (.v 1) (.c 1)) (.c 1) (.e (-1) (.v 0) (.a (.v 1) (.c 3)) (.l 1 (.a (.v 0) (.c 1)) (.c 3) .n))) (by kernel_rfl) u9 hend q0)))) (fun q0 => linn [_, _] [] (.a (.v 1) (.c 1)) (.v 0) (.e (-1) (.a (.v 1) (.c 1)) (.v 0) .n) (by kernel_rfl) (Nat.sub_add_cancel (Nat.not_lt.mp (fun u9 => lin [_, _] [] (.l 1 (.a (.v 1) (.c 1)) (.c 1) (.e 1 (.v 0) (.a (.v 1) (.c 3)) (.l 1 (.a (.c 3) (.c 1)) (.v 0) .n))) (by kernel_rfl) u9 hend q0))))] at e
        have := uk (k - 1 - 1) (by exact Nat.not_le.mp (fun u9 => lin [_, _, _, _] [] (.l 1 (.v 0) (.v 2) (.e (-1) (.v 0) (.a (.v 1) (.c 3)) (.l 1 (.v 2) (.v 3) (.l 1 (.v 3) (.v 1) .n)))) (by kernel_rfl) u9 hend (Nat.sub_le _ _) (Nat.sub_le _ _))) e; exact Or.elim (Nat.lt_or_gt_of_ne h4) (fun q0 => lin [_, _, _] [] (.e (-1) (.v 1) (.v 0) (.e 1 (.a (.v 1) (.c 1)) (.v 2) (.e 1 (.a (.v 2) (.c 1)) (.v 0) .n))) (by kernel_rfl) this (Nat.sub_add_cancel (Nat.not_lt.mp (fun u9 => lin [_, _, _] [] (.l 0 (.a (.v 2) (.c 1)) (.c 1) (.e (-1) (.v 1) (.v 0) (.e 1 (.a (.v 1) (.c 1)) (.v 2) (.e 1 (.a (.v 2) (.c 1)) (.v 0) .n)))) (by kernel_rfl) u9 this (Nat.sub_add_cancel (Nat.not_lt.mp (fun u9 => lin [_, _, _, _] [] (.l 0 (.a (.v 3) (.c 1)) (.c 1) (.e (-1) (.v 0) (.a (.v 1) (.c 3)) (.e 1 (.v 2) (.v 1) (.l 1 (.a (.v 0) (.c 1)) (.c 3) .n)))) (by kernel_rfl) u9 hend this q0))) (Nat.sub_add_cancel (Nat.not_lt.mp (fun u9 => lin [_, _, _] [] (.l 0 (.a (.v 1) (.c 1)) (.c 1) (.e (-1) (.v 0) (.a (.v 1) (.c 3)) (.e 1 (.v 2) (.v 1) (.l 1 (.a (.v 0) (.c 1)) (.c 3) .n)))) (by kernel_rfl) u9 hend this q0)))))) (Nat.sub_add_cancel (Nat.not_lt.mp (fun u9 => lin [_, _, _] [] (.l 0 (.a (.v 0) (.c 1)) (.c 1) (.e (-1) (.v 1) (.v 0) (.e 1 (.a (.v 1) (.c 1)) (.v 2) (.e 1 (.a (.v 2) (.c 1)) (.v 0) .n)))) (by kernel_rfl) u9 this (Nat.sub_add_cancel (Nat.not_lt.mp (fun u9 => lin [_, _, _, _] [] (.l 0 (.a (.v 3) (.c 1)) (.c 1) (.e (-1) (.v 0) (.a (.v 1) (.c 3)) (.e 1 (.v 2) (.v 1) (.l 1 (.a (.v 0) (.c 1)) (.c 3) .n)))) (by kernel_rfl) u9 hend this q0))) (Nat.sub_add_cancel (Nat.not_lt.mp (fun u9 => lin [_, _, _] [] (.l 0 (.a (.v 1) (.c 1)) (.c 1) (.e (-1) (.v 0) (.a (.v 1) (.c 3)) (.e 1 (.v 2) (.v 1) (.l 1 (.a (.v 0) (.c 1)) (.c 3) .n)))) (by kernel_rfl) u9 hend this q0))))))) (fun q0 => lin [_, _, _] [] (.e (-1) (.v 1) (.v 0) (.e 1 (.a (.v 1) (.c 1)) (.v 2) (.e 1 (.a (.v 2) (.c 1)) (.v 0) .n))) (by kernel_rfl) this (Nat.sub_add_cancel (Nat.not_lt.mp (fun u9 => lin [_, _, _] [] (.l 0 (.a (.v 2) (.c 1)) (.c 1) (.e (-1) (.v 1) (.v 0) (.e 1 (.a (.v 1) (.c 1)) (.v 2) (.e 1 (.a (.v 2) (.c 1)) (.v 0) .n)))) (by kernel_rfl) u9 this (Nat.sub_add_cancel (Nat.not_lt.mp (fun u9 => lin [_, _, _, _] [] (.l 1 (.a (.v 3) (.c 1)) (.c 1) (.e 1 (.v 0) (.a (.v 1) (.c 3)) (.e (-1) (.v 2) (.v 1) (.l 1 (.a (.c 3) (.c 1)) (.v 0) (.l 1 (.v 2) (.v 3) .n))))) (by kernel_rfl) u9 hend this q0 (Nat.sub_le _ _)))) (Nat.sub_add_cancel (Nat.not_lt.mp (fun u9 => lin [_, _] [] (.l 1 (.a (.v 1) (.c 1)) (.c 1) (.e 1 (.v 0) (.a (.v 1) (.c 3)) (.l 1 (.a (.c 3) (.c 1)) (.v 0) .n))) (by kernel_rfl) u9 hend q0)))))) (Nat.sub_add_cancel (Nat.not_lt.mp (fun u9 => lin [_, _, _] [] (.l 0 (.a (.v 0) (.c 1)) (.c 1) (.e (-1) (.v 1) (.v 0) (.e 1 (.a (.v 1) (.c 1)) (.v 2) (.e 1 (.a (.v 2) (.c 1)) (.v 0) .n)))) (by kernel_rfl) u9 this (Nat.sub_add_cancel (Nat.not_lt.mp (fun u9 => lin [_, _, _, _] [] (.l 1 (.a (.v 3) (.c 1)) (.c 1) (.e 1 (.v 0) (.a (.v 1) (.c 3)) (.e (-1) (.v 2) (.v 1) (.l 1 (.a (.c 3) (.c 1)) (.v 0) (.l 1 (.v 2) (.v 3) .n))))) (by kernel_rfl) u9 hend this q0 (Nat.sub_le _ _)))) (Nat.sub_add_cancel (Nat.not_lt.mp (fun u9 => lin [_, _] [] (.l 1 (.a (.v 1) (.c 1)) (.c 1) (.e 1 (.v 0) (.a (.v 1) (.c 3)) (.l 1 (.a (.c 3) (.c 1)) (.v 0) .n))) (by kernel_rfl) u9 hend q0)))))))
      have := hu (k - 1) (by exact Or.elim (Nat.lt_or_gt_of_ne h4) (fun q0 => Nat.not_lt.mp (fun u9 => lin [_, _, _] [] (.l 0 (.a (.v 2) (.c 1)) (.c 1) (.e (-1) (.v 0) (.a (.v 1) (.c 3)) (.l 1 (.a (.v 0) (.c 1)) (.c 3) .n))) (by kernel_rfl) u9 hend q0)) (fun q0 => Or.elim (Nat.lt_or_gt_of_ne hk0) (fun q2 => Nat.not_lt.mp (fun u9 => lin [_, _] [] (.l 0 (.a (.v 1) (.c 1)) (.c 1) (.l 1 (.a (.v 0) (.c 1)) (.c 1) (.e 1 (.a (.v 1) (.c 1)) (.v 0) .n))) (by kernel_rfl) u9 q2 (Nat.sub_add_cancel (Nat.not_lt.mp (fun u9 => lin [_, _] [] (.l 1 (.a (.v 1) (.c 1)) (.c 1) (.e 1 (.v 0) (.a (.v 1) (.c 3)) (.l 1 (.a (.c 3) (.c 1)) (.v 0) .n))) (by kernel_rfl) u9 hend q0))))) (fun q2 => Nat.not_lt.mp (fun u9 => lin [_, _] [] (.l 1 (.a (.v 1) (.c 1)) (.c 1) (.l 1 (.a (.c 1) (.c 1)) (.v 0) (.e (-1) (.a (.v 1) (.c 1)) (.v 0) .n))) (by kernel_rfl) u9 q2 (Nat.sub_add_cancel (Nat.not_lt.mp (fun u9 => lin [_, _] [] (.l 1 (.a (.v 1) (.c 1)) (.c 1) (.e 1 (.v 0) (.a (.v 1) (.c 3)) (.l 1 (.a (.c 3) (.c 1)) (.v 0) .n))) (by kernel_rfl) u9 hend q0))))))) (by exact Nat.not_le.mp (fun u9 => lin [_, _, _] [] (.l 1 (.v 0) (.a (.v 2) (.c 1)) (.e (-1) (.v 0) (.a (.v 1) (.c 3)) (.l 1 (.v 2) (.v 1) .n))) (by kernel_rfl) u9 hend (Nat.sub_le _ _))) n0 (k + 2) hr e2
      exact lin [_, _] [] (.e 1 (.a (.v 0) (.c 2)) (.v 1) (.e 1 (.a (.v 1) (.c 1)) (.v 0) .n)) (by kernel_rfl) this (Nat.sub_add_cancel (Nat.not_lt.mp (fun u9 => lin [_, _] [] (.l 0 (.a (.v 0) (.c 1)) (.c 1) (.e 1 (.a (.v 0) (.c 2)) (.v 1) (.e 1 (.a (.v 1) (.c 1)) (.v 0) .n))) (by kernel_rfl) u9 this (Nat.sub_add_cancel (Nat.not_lt.mp (fun u9 => lin [_, _] [] (.l 0 (.a (.v 0) (.c 1)) (.c 1) (.e 1 (.a (.v 0) (.c 2)) (.v 1) (.l 1 (.v 1) (.v 0) .n))) (by kernel_rfl) u9 this (Nat.sub_le _ _)))))))
  · have hl : ls.length = k + 2 := by exact Nat.le_antisymm (Nat.not_lt.mp (fun u9 => lin [_, _] [] (.l 1 (.a (.a (.v 0) (.c 2)) (.c 1)) (.v 1) (.l 1 (.v 1) (.a (.v 0) (.c 2)) .n)) (by kernel_rfl) u9 (Nat.not_lt.mp hr))) (Nat.not_lt.mp (fun u9 => lin [_, _] [] (.l 1 (.a (.v 1) (.c 1)) (.a (.v 0) (.c 2)) (.l 1 (.a (.a (.v 0) (.c 1)) (.c 1)) (.v 1) .n)) (by kernel_rfl) u9 k2))
    have hk1 : 2 ≤ k := by exact Or.elim (Nat.lt_or_gt_of_ne h4) (fun q0 => Nat.not_lt.mp (fun u9 => lin [_, _] [] (.l 0 (.a (.v 1) (.c 1)) (.c 2) (.l 1 (.c 3) (.v 0) (.l 1 (.a (.v 0) (.c 1)) (.c 3) .n))) (by kernel_rfl) u9 h3 q0)) (fun q0 => Nat.not_lt.mp (fun u9 => lin [_, _] [] (.l 1 (.a (.v 1) (.c 1)) (.c 2) (.l 1 (.v 0) (.a (.v 1) (.c 2)) (.l 1 (.a (.c 3) (.c 1)) (.v 0) .n))) (by kernel_rfl) u9 (Nat.not_lt.mp hr) q0))
    have n0 : ls.getD (k - 1 - 1) 0 ≠ ls.getD (k - 1 + 1) 0 := fun e => by
      rw [show k - 1 + 1 = k by exact linn [_, _] [] (.a (.v 1) (.c 1)) (.v 0) (.e (-1) (.a (.v 1) (.c 1)) (.v 0) .n) (by kernel_rfl) (Nat.sub_add_cancel (Nat.not_lt.mp (fun u9 => lin [_, _] [] (.l 1 (.a (.v 1) (.c 1)) (.c 1) (.l 1 (.c 3) (.v 0) (.l 1 (.v 0) (.a (.v 1) (.c 2)) .n))) (by kernel_rfl) u9 h3 (Nat.not_lt.mp hr))))] at e
      have := uk (k - 1 - 1) (by exact Nat.not_le.mp (fun u9 => lin [_, _, _, _] [] (.l 1 (.v 0) (.v 2) (.l 1 (.a (.a (.v 1) (.c 1)) (.c 1)) (.v 0) (.l 1 (.v 2) (.v 3) (.e 1 (.a (.v 3) (.c 1)) (.v 1) .n)))) (by kernel_rfl) u9 k2 (Nat.sub_le _ _) (Nat.sub_add_cancel (Nat.not_lt.mp (fun u9 => lin [_] [] (.l 1 (.a (.v 0) (.c 1)) (.c 1) (.l 1 (.c 1) (.v 0) .n)) (by kernel_rfl) u9 k1))))) e; exact lin [_, _, _] [] (.e (-1) (.v 1) (.v 0) (.e 1 (.a (.v 1) (.c 1)) (.v 2) (.e 1 (.a (.v 2) (.c 1)) (.v 0) .n))) (by kernel_rfl) this (Nat.sub_add_cancel (Nat.not_lt.mp (fun u9 => lin [_, _, _] [] (.l 0 (.a (.v 2) (.c 1)) (.c 1) (.e (-1) (.v 1) (.v 0) (.e 1 (.a (.v 1) (.c 1)) (.v 2) (.e 1 (.a (.v 2) (.c 1)) (.v 0) .n)))) (by kernel_rfl) u9 this (Nat.sub_add_cancel (Nat.not_lt.mp (fun u9 => lin [_, _, _] [] (.l 1 (.a (.v 2) (.c 1)) (.c 1) (.l 1 (.c 1) (.v 0) (.e (-1) (.v 1) (.v 0) (.l 1 (.v 1) (.v 2) .n)))) (by kernel_rfl) u9 k1 this (Nat.sub_le _ _)))) (Nat.sub_add_cancel (Nat.not_lt.mp (fun u9 => lin [_] [] (.l 1 (.a (.v 0) (.c 1)) (.c 1) (.l 1 (.c 1) (.v 0) .n)) (by kernel_rfl) u9 k1)))))) (Nat.sub_add_cancel (Nat.not_lt.mp (fun u9 => lin [_, _, _] [] (.l 0 (.a (.v 0) (.c 1)) (.c 1) (.e (-1) (.v 1) (.v 0) (.e 1 (.a (.v 1) (.c 1)) (.v 2) (.e 1 (.a (.v 2) (.c 1)) (.v 0) .n)))) (by kernel_rfl) u9 this (Nat.sub_add_cancel (Nat.not_lt.mp (fun u9 => lin [_, _, _] [] (.l 1 (.a (.v 2) (.c 1)) (.c 1) (.l 1 (.c 1) (.v 0) (.e (-1) (.v 1) (.v 0) (.l 1 (.v 1) (.v 2) .n)))) (by kernel_rfl) u9 k1 this (Nat.sub_le _ _)))) (Nat.sub_add_cancel (Nat.not_lt.mp (fun u9 => lin [_] [] (.l 1 (.a (.v 0) (.c 1)) (.c 1) (.l 1 (.c 1) (.v 0) .n)) (by kernel_rfl) u9 k1))))))
    have u1 := hu (k - 1) (by exact Or.elim (Nat.lt_or_gt_of_ne h4) (fun q0 => Nat.not_lt.mp (fun u9 => lin [_, _] [] (.l 0 (.a (.v 1) (.c 1)) (.c 1) (.l 1 (.c 3) (.v 0) (.l 1 (.a (.v 0) (.c 1)) (.c 3) .n))) (by kernel_rfl) u9 h3 q0)) (fun q0 => Nat.not_lt.mp (fun u9 => lin [_, _, _] [] (.l 1 (.a (.v 2) (.c 1)) (.c 1) (.l 1 (.v 0) (.a (.v 1) (.c 2)) (.l 1 (.a (.c 3) (.c 1)) (.v 0) (.e (-1) (.a (.v 2) (.c 1)) (.v 1) .n)))) (by kernel_rfl) u9 (Nat.not_lt.mp hr) q0 (Nat.sub_add_cancel (Nat.not_lt.mp (fun u9 => lin [_, _] [] (.l 1 (.a (.v 1) (.c 1)) (.c 1) (.l 1 (.v 0) (.a (.v 1) (.c 2)) (.l 1 (.a (.c 3) (.c 1)) (.v 0) .n))) (by kernel_rfl) u9 (Nat.not_lt.mp hr) q0)))))) (by exact Nat.not_le.mp (fun u9 => lin [_, _, _] [] (.l 1 (.v 0) (.a (.v 2) (.c 1)) (.l 1 (.a (.a (.v 1) (.c 1)) (.c 1)) (.v 0) (.e 1 (.a (.v 2) (.c 1)) (.v 1) .n))) (by kernel_rfl) u9 k2 (Nat.sub_add_cancel (Nat.not_lt.mp (fun u9 => lin [_, _] [] (.l 1 (.a (.v 1) (.c 1)) (.c 1) (.l 1 (.c 3) (.v 0) (.l 1 (.v 0) (.a (.v 1) (.c 2)) .n))) (by kernel_rfl) u9 h3 (Nat.not_lt.mp hr)))))) n0
    have t2 := tri (k - 2) (by exact Nat.not_le.mp (fun u9 => lin [_, _, _] [] (.l 1 (.v 0) (.v 2) (.l 1 (.a (.a (.v 1) (.c 1)) (.c 1)) (.v 0) (.l 1 (.v 2) (.v 1) .n))) (by kernel_rfl) u9 k2 (Nat.sub_le _ _)))
    have a2 := h.adj (k - 2) (by exact Nat.not_le.mp (fun u9 => lin [_, _, _] [] (.l 1 (.v 0) (.a (.v 2) (.c 1)) (.l 1 (.a (.a (.v 1) (.c 1)) (.c 1)) (.v 0) (.l 1 (.v 2) (.v 1) .n))) (by kernel_rfl) u9 k2 (Nat.sub_le _ _)))
    rw [show k - 2 + 1 = k - 1 by exact Or.elim (Nat.lt_or_gt_of_ne h4) (fun q0 => linn [_, _, _] [] (.a (.v 1) (.c 1)) (.v 2) (.e (-1) (.a (.v 1) (.c 2)) (.v 0) (.e 1 (.a (.v 2) (.c 1)) (.v 0) .n)) (by kernel_rfl) (Nat.sub_add_cancel (Nat.not_lt.mp (fun u9 => lin [_, _] [] (.l 0 (.a (.v 1) (.c 1)) (.c 2) (.l 1 (.c 3) (.v 0) (.l 1 (.a (.v 0) (.c 1)) (.c 3) .n))) (by kernel_rfl) u9 h3 q0))) (Nat.sub_add_cancel (Nat.not_lt.mp (fun u9 => lin [_, _] [] (.l 0 (.a (.v 1) (.c 1)) (.c 1) (.l 1 (.c 3) (.v 0) (.l 1 (.a (.v 0) (.c 1)) (.c 3) .n))) (by kernel_rfl) u9 h3 q0)))) (fun q0 => linn [_, _, _] [] (.a (.v 1) (.c 1)) (.v 2) (.e (-1) (.a (.v 1) (.c 2)) (.v 0) (.e 1 (.a (.v 2) (.c 1)) (.v 0) .n)) (by kernel_rfl) (Nat.sub_add_cancel (Nat.not_lt.mp (fun u9 => lin [_, _] [] (.l 1 (.a (.v 1) (.c 1)) (.c 2) (.l 1 (.v 0) (.a (.v 1) (.c 2)) (.l 1 (.a (.c 3) (.c 1)) (.v 0) .n))) (by kernel_rfl) u9 (Nat.not_lt.mp hr) q0))) (Nat.sub_add_cancel (Nat.not_lt.mp (fun u9 => lin [_] [] (.l 1 (.a (.v 0) (.c 1)) (.c 1) (.l 1 (.c 1) (.v 0) .n)) (by kernel_rfl) u9 k1))))] at a2
    rw [show k - 1 - 1 = k - 2 by exact Or.elim (Nat.le_total (k - 1) (1)) (fun q0 => linn [_, _] [] (.v 0) (.v 1) (.e (-1) (.v 0) (.c 0) (.e 1 (.v 1) (.c 0) .n)) (by kernel_rfl) (Nat.sub_eq_zero_of_le (Nat.not_lt.mp (fun u9 => lin [_] [] (.l 1 (.a (.c 1) (.c 1)) (.v 0) (.l 1 (.v 0) (.c 1) .n)) (by kernel_rfl) u9 q0))) (Nat.sub_eq_zero_of_le (Nat.not_lt.mp (fun u9 => lin [_, _] [] (.l 1 (.a (.c 2) (.c 1)) (.v 1) (.l 1 (.v 0) (.c 1) (.l 1 (.v 1) (.a (.v 0) (.c 1)) .n))) (by kernel_rfl) u9 q0 (sub_g _ _))))) (fun q0 => linn [_, _, _, _] [] (.v 1) (.v 2) (.e (-1) (.a (.v 0) (.c 1)) (.v 3) (.e (-1) (.a (.v 1) (.c 1)) (.v 0) (.e 1 (.a (.v 2) (.c 2)) (.v 3) .n))) (by kernel_rfl) (Nat.sub_add_cancel (Nat.not_lt.mp (fun u9 => lin [_, _] [] (.l 1 (.a (.v 1) (.c 1)) (.c 1) (.l 1 (.c 1) (.v 0) (.e 1 (.a (.v 0) (.c 1)) (.v 1) .n))) (by kernel_rfl) u9 q0 (Nat.sub_add_cancel (Nat.not_lt.mp (fun u9 => lin [_, _] [] (.l 1 (.a (.v 1) (.c 1)) (.c 1) (.l 1 (.c 1) (.v 0) (.l 1 (.v 0) (.v 1) .n))) (by kernel_rfl) u9 q0 (Nat.sub_le _ _))))))) (Nat.sub_add_cancel (Nat.not_lt.mp (fun u9 => lin [_] [] (.l 1 (.a (.v 0) (.c 1)) (.c 1) (.l 1 (.c 1) (.v 0) .n)) (by kernel_rfl) u9 q0))) (Nat.sub_add_cancel (Nat.not_lt.mp (fun u9 => lin [_, _] [] (.l 1 (.a (.v 1) (.c 1)) (.c 2) (.l 1 (.c 1) (.v 0) (.e 1 (.a (.v 0) (.c 1)) (.v 1) .n))) (by kernel_rfl) u9 q0 (Nat.sub_add_cancel (Nat.not_lt.mp (fun u9 => lin [_, _] [] (.l 1 (.a (.v 1) (.c 1)) (.c 1) (.l 1 (.c 1) (.v 0) (.l 1 (.v 0) (.v 1) .n))) (by kernel_rfl) u9 q0 (Nat.sub_le _ _)))))))), show k - 1 + 1 = k by exact linn [_, _] [] (.a (.v 1) (.c 1)) (.v 0) (.e (-1) (.a (.v 1) (.c 1)) (.v 0) .n) (by kernel_rfl) (Nat.sub_add_cancel (Nat.not_lt.mp (fun u9 => lin [_, _] [] (.l 1 (.a (.v 1) (.c 1)) (.c 1) (.l 1 (.c 3) (.v 0) (.l 1 (.v 0) (.a (.v 1) (.c 2)) .n))) (by kernel_rfl) u9 h3 (Nat.not_lt.mp hr))))] at n0
    have e2 : ls.getD (k - 2) 0 = ls.getD (k + 1) 0 := by
      unfold Tri at *
      lia
    by_cases hk0 : k = 2
    · have := h.ends
      rw [hl, hk0] at this
      rw [hk0] at e2
      exact this e2
    · have t3 := tri (k - 3) (by exact Nat.not_le.mp (fun u9 => lin [_, _, _] [] (.l 1 (.v 1) (.v 2) (.l 1 (.a (.a (.v 0) (.c 1)) (.c 1)) (.v 1) (.l 1 (.v 2) (.v 0) .n))) (by kernel_rfl) u9 k2 (Nat.sub_le _ _)))
      have a3 := h.adj (k - 3) (by exact Nat.not_le.mp (fun u9 => lin [_, _, _] [] (.l 1 (.v 1) (.a (.v 2) (.c 1)) (.l 1 (.a (.a (.v 0) (.c 1)) (.c 1)) (.v 1) (.l 1 (.v 2) (.v 0) .n))) (by kernel_rfl) u9 k2 (Nat.sub_le _ _)))
      rw [show k - 3 + 1 = k - 2 by exact Or.elim (Nat.lt_or_gt_of_ne h4) (fun q0 => linn [_, _, _] [] (.a (.v 1) (.c 1)) (.v 2) (.e (-1) (.a (.v 1) (.c 3)) (.v 0) (.e 1 (.a (.v 2) (.c 2)) (.v 0) .n)) (by kernel_rfl) (Nat.sub_add_cancel (Nat.not_lt.mp (fun u9 => lin [_, _] [] (.l 0 (.a (.v 1) (.c 1)) (.c 3) (.l 1 (.c 3) (.v 0) (.l 1 (.a (.v 0) (.c 1)) (.c 3) .n))) (by kernel_rfl) u9 h3 q0))) (Nat.sub_add_cancel (Nat.not_lt.mp (fun u9 => lin [_, _] [] (.l 0 (.a (.v 1) (.c 1)) (.c 2) (.l 1 (.c 3) (.v 0) (.l 1 (.a (.v 0) (.c 1)) (.c 3) .n))) (by kernel_rfl) u9 h3 q0)))) (fun q0 => Or.elim (Nat.lt_or_gt_of_ne hk0) (fun q2 => linn [_, _, _] [] (.a (.v 1) (.c 1)) (.v 2) (.e (-1) (.a (.v 1) (.c 3)) (.v 0) (.e 1 (.a (.v 2) (.c 2)) (.v 0) .n)) (by kernel_rfl) (Nat.sub_add_cancel (Nat.not_lt.mp (fun u9 => lin [_, _] [] (.l 0 (.a (.v 1) (.c 1)) (.c 3) (.l 1 (.v 0) (.a (.v 1) (.c 2)) (.l 1 (.a (.c 3) (.c 1)) (.v 0) (.l 1 (.a (.v 1) (.c 1)) (.c 2) .n)))) (by kernel_rfl) u9 (Nat.not_lt.mp hr) q0 q2))) (Nat.sub_add_cancel (Nat.not_lt.mp (fun u9 => lin [_, _] [] (.l 1 (.a (.v 1) (.c 1)) (.c 2) (.l 1 (.v 0) (.a (.v 1) (.c 2)) (.l 1 (.a (.c 3) (.c 1)) (.v 0) .n))) (by kernel_rfl) u9 (Nat.not_lt.mp hr) q0)))) (fun q2 => linn [_, _, _] [] (.a (.v 1) (.c 1)) (.v 2) (.e (-1) (.a (.v 1) (.c 3)) (.v 0) (.e 1 (.a (.v 2) (.c 2)) (.v 0) .n)) (by kernel_rfl) (Nat.sub_add_cancel (Nat.not_lt.mp (fun u9 => lin [_] [] (.l 1 (.a (.v 0) (.c 1)) (.c 3) (.l 1 (.a (.c 2) (.c 1)) (.v 0) .n)) (by kernel_rfl) u9 q2))) (Nat.sub_add_cancel (Nat.not_lt.mp (fun u9 => lin [_] [] (.l 1 (.a (.v 0) (.c 1)) (.c 2) (.l 1 (.a (.c 2) (.c 1)) (.v 0) .n)) (by kernel_rfl) u9 q2)))))] at a3
      have n1 : ls.getD (k - 3) 0 ≠ ls.getD k 0 := fun e => by have := uk (k - 3) (by exact Nat.not_le.mp (fun u9 => lin [_, _, _] [] (.l 1 (.v 1) (.v 2) (.l 1 (.a (.a (.v 0) (.c 1)) (.c 1)) (.v 1) (.l 1 (.v 2) (.v 0) .n))) (by kernel_rfl) u9 k2 (Nat.sub_le _ _))) e; exact Or.elim (Nat.le_total (k) (3)) (fun q0 => lin [_, _] [] (.e (-1) (.v 1) (.v 0) (.e 1 (.a (.v 1) (.c 3)) (.v 0) .n)) (by kernel_rfl) this (Nat.sub_add_cancel (Nat.not_lt.mp (fun u9 => lin [_, _] [] (.l 0 (.a (.v 0) (.c 1)) (.c 3) (.l 1 (.c 1) (.v 0) (.e (-1) (.v 1) (.v 0) (.e 1 (.v 1) (.c 0) .n)))) (by kernel_rfl) u9 k1 this (Nat.sub_eq_zero_of_le (Nat.not_lt.mp (fun u9 => lin [_] [] (.l 1 (.a (.c 3) (.c 1)) (.v 0) (.l 1 (.v 0) (.c 3) .n)) (by kernel_rfl) u9 q0))))))) (fun q0 => lin [_, _] [] (.e (-1) (.v 1) (.v 0) (.e 1 (.a (.v 1) (.c 3)) (.v 0) .n)) (by kernel_rfl) this (Nat.sub_add_cancel (Nat.not_lt.mp (fun u9 => lin [_, _] [] (.l 0 (.a (.v 0) (.c 1)) (.c 3) (.e (-1) (.v 1) (.v 0) (.e 1 (.a (.v 1) (.c 3)) (.v 0) .n))) (by kernel_rfl) u9 this (Nat.sub_add_cancel (Nat.not_lt.mp (fun u9 => lin [_] [] (.l 1 (.a (.v 0) (.c 1)) (.c 3) (.l 1 (.c 3) (.v 0) .n)) (by kernel_rfl) u9 q0)))))))
      have n2 : ls.getD (k - 3) 0 ≠ ls.getD (k - 1) 0 := fun e => by have := u1 (k - 3) (by exact Nat.not_le.mp (fun u9 => lin [_, _, _] [] (.l 1 (.v 1) (.v 2) (.l 1 (.a (.a (.v 0) (.c 1)) (.c 1)) (.v 1) (.l 1 (.v 2) (.v 0) .n))) (by kernel_rfl) u9 k2 (Nat.sub_le _ _))) e; exact Or.elim (Nat.lt_or_gt_of_ne h4) (fun q0 => lin [_, _, _] [] (.e (-1) (.v 1) (.v 2) (.e 1 (.a (.v 1) (.c 3)) (.v 0) (.e (-1) (.a (.v 2) (.c 1)) (.v 0) .n))) (by kernel_rfl) this (Nat.sub_add_cancel (Nat.not_lt.mp (fun u9 => lin [_, _, _] [] (.l 0 (.a (.v 0) (.c 1)) (.c 3) (.e (-1) (.v 1) (.v 2) (.e 1 (.a (.v 1) (.c 3)) (.v 0) (.e (-1) (.a (.v 2) (.c 1)) (.v 0) .n)))) (by kernel_rfl) u9 this (Nat.sub_add_cancel (Nat.not_lt.mp (fun u9 => lin [_, _] [] (.l 0 (.a (.v 1) (.c 1)) (.c 3) (.l 1 (.c 3) (.v 0) (.l 1 (.a (.v 0) (.c 1)) (.c 3) .n))) (by kernel_rfl) u9 h3 q0))) (Nat.sub_add_cancel (Nat.not_lt.mp (fun u9 => lin [_, _] [] (.l 0 (.a (.v 1) (.c 1)) (.c 1) (.l 1 (.c 3) (.v 0) (.l 1 (.a (.v 0) (.c 1)) (.c 3) .n))) (by kernel_rfl) u9 h3 q0)))))) (Nat.sub_add_cancel (Nat.not_lt.mp (fun u9 => lin [_, _, _] [] (.l 0 (.a (.v 0) (.c 1)) (.c 1) (.e (-1) (.v 1) (.v 2) (.e 1 (.a (.v 1) (.c 3)) (.v 0) (.e (-1) (.a (.v 2) (.c 1)) (.v 0) .n)))) (by kernel_rfl) u9 this (Nat.sub_add_cancel (Nat.not_lt.mp (fun u9 => lin [_, _] [] (.l 0 (.a (.v 1) (.c 1)) (.c 3) (.l 1 (.c 3) (.v 0) (.l 1 (.a (.v 0) (.c 1)) (.c 3) .n))) (by kernel_rfl) u9 h3 q0))) (Nat.sub_add_cancel (Nat.not_lt.mp (fun u9 => lin [_, _] [] (.l 0 (.a (.v 1) (.c 1)) (.c 1) (.l 1 (.c 3) (.v 0) (.l 1 (.a (.v 0) (.c 1)) (.c 3) .n))) (by kernel_rfl) u9 h3 q0))))))) (fun q0 => Or.elim (Nat.lt_or_gt_of_ne hk0) (fun q2 => lin [_, _, _] [] (.e (-1) (.v 1) (.v 2) (.e 1 (.a (.v 1) (.c 3)) (.v 0) (.e (-1) (.a (.v 2) (.c 1)) (.v 0) .n))) (by kernel_rfl) this (Nat.sub_add_cancel (Nat.not_lt.mp (fun u9 => lin [_, _, _] [] (.l 0 (.a (.v 0) (.c 1)) (.c 3) (.e (-1) (.v 1) (.v 2) (.e 1 (.a (.v 1) (.c 3)) (.v 0) (.e (-1) (.a (.v 2) (.c 1)) (.v 0) .n)))) (by kernel_rfl) u9 this (Nat.sub_add_cancel (Nat.not_lt.mp (fun u9 => lin [_, _] [] (.l 0 (.a (.v 1) (.c 1)) (.c 3) (.l 1 (.v 0) (.a (.v 1) (.c 2)) (.l 1 (.a (.c 3) (.c 1)) (.v 0) (.l 1 (.a (.v 1) (.c 1)) (.c 2) .n)))) (by kernel_rfl) u9 (Nat.not_lt.mp hr) q0 q2))) (Nat.sub_add_cancel (Nat.not_lt.mp (fun u9 => lin [_, _] [] (.l 0 (.a (.v 1) (.c 1)) (.c 1) (.l 1 (.v 0) (.a (.v 1) (.c 2)) (.l 1 (.a (.c 3) (.c 1)) (.v 0) (.l 1 (.a (.v 1) (.c 1)) (.c 2) .n)))) (by kernel_rfl) u9 (Nat.not_lt.mp hr) q0 q2)))))) (Nat.sub_add_cancel (Nat.not_lt.mp (fun u9 => lin [_, _, _] [] (.l 0 (.a (.v 0) (.c 1)) (.c 1) (.e (-1) (.v 1) (.v 2) (.e 1 (.a (.v 1) (.c 3)) (.v 0) (.e (-1) (.a (.v 2) (.c 1)) (.v 0) .n)))) (by kernel_rfl) u9 this (Nat.sub_add_cancel (Nat.not_lt.mp (fun u9 => lin [_, _] [] (.l 0 (.a (.v 1) (.c 1)) (.c 3) (.l 1 (.v 0) (.a (.v 1) (.c 2)) (.l 1 (.a (.c 3) (.c 1)) (.v 0) (.l 1 (.a (.v 1) (.c 1)) (.c 2) .n)))) (by kernel_rfl) u9 (Nat.not_lt.mp hr) q0 q2))) (Nat.sub_add_cancel (Nat.not_lt.mp (fun u9 => lin [_, _] [] (.l 0 (.a (.v 1) (.c 1)) (.c 1) (.l 1 (.v 0) (.a (.v 1) (.c 2)) (.l 1 (.a (.c 3) (.c 1)) (.v 0) (.l 1 (.a (.v 1) (.c 1)) (.c 2) .n)))) (by kernel_rfl) u9 (Nat.not_lt.mp hr) q0 q2))))))) (fun q2 => lin [_, _, _] [] (.e (-1) (.v 1) (.v 2) (.e 1 (.a (.v 1) (.c 3)) (.v 0) (.e (-1) (.a (.v 2) (.c 1)) (.v 0) .n))) (by kernel_rfl) this (Nat.sub_add_cancel (Nat.not_lt.mp (fun u9 => lin [_, _, _] [] (.l 0 (.a (.v 0) (.c 1)) (.c 3) (.e (-1) (.v 1) (.v 2) (.e 1 (.a (.v 1) (.c 3)) (.v 0) (.e (-1) (.a (.v 2) (.c 1)) (.v 0) .n)))) (by kernel_rfl) u9 this (Nat.sub_add_cancel (Nat.not_lt.mp (fun u9 => lin [_] [] (.l 1 (.a (.v 0) (.c 1)) (.c 3) (.l 1 (.a (.c 2) (.c 1)) (.v 0) .n)) (by kernel_rfl) u9 q2))) (Nat.sub_add_cancel (Nat.not_lt.mp (fun u9 => lin [_] [] (.l 1 (.a (.v 0) (.c 1)) (.c 1) (.l 1 (.c 1) (.v 0) .n)) (by kernel_rfl) u9 k1)))))) (Nat.sub_add_cancel (Nat.not_lt.mp (fun u9 => lin [_, _, _] [] (.l 0 (.a (.v 0) (.c 1)) (.c 1) (.e (-1) (.v 1) (.v 2) (.e 1 (.a (.v 1) (.c 3)) (.v 0) (.e (-1) (.a (.v 2) (.c 1)) (.v 0) .n)))) (by kernel_rfl) u9 this (Nat.sub_add_cancel (Nat.not_lt.mp (fun u9 => lin [_] [] (.l 1 (.a (.v 0) (.c 1)) (.c 3) (.l 1 (.a (.c 2) (.c 1)) (.v 0) .n)) (by kernel_rfl) u9 q2))) (Nat.sub_add_cancel (Nat.not_lt.mp (fun u9 => lin [_] [] (.l 1 (.a (.v 0) (.c 1)) (.c 1) (.l 1 (.c 1) (.v 0) .n)) (by kernel_rfl) u9 k1))))))))
      unfold Tri at *
      lia
theorem getD_erase (ls : List Int) (k i : Nat) : (ls.eraseIdx k).getD i 0 = if i < k then ls.getD i 0 else ls.getD (i + 1) 0 := by
  simp only [List.getD_eq_getElem?_getD, List.getElem?_eraseIdx]
  split <;> rfl
theorem count_erase {ls : List Int} {k : Nat} (hk : k < ls.length) (c : Int) : ls.count c = (ls.eraseIdx k).count c + (if ls.getD k 0 = c then 1 else 0) := by
  have e1 : ls.getD k 0 = ls[k] := by rw [List.getD_eq_getElem?_getD, List.getElem?_eq_getElem hk]; rfl
  have e2 : ls.count c = (ls.take k).count c + (ls.drop k).count c := by rw [← List.count_append, List.take_append_drop]
  rw [List.eraseIdx_eq_take_drop_succ, List.count_append, e2, List.drop_eq_getElem_cons hk, List.count_cons, e1]
  by_cases h : ls[k] = c
  · simp [h]; exact linn [_, _] [] (.a (.v 0) (.a (.v 1) (.c 1))) (.a (.a (.v 0) (.v 1)) (.c 1)) .n (by kernel_rfl)
  · simp [h]
theorem ls_free {ls : List Int} (h : LsOk ls) {k : Nat} (hk : 1 ≤ k) (hk2 : k + 1 < ls.length) (hf : isFree ls k = true) : LsOk (ls.eraseIdx k) := by
  unfold isFree at hf
  rw [Bool.and_eq_true, Bool.not_eq_true', decide_eq_false_iff_not, Bool.or_eq_true, beq_iff_eq, decide_eq_true_iff] at hf
  obtain ⟨hne, hc⟩ := hf
  have hl : (ls.eraseIdx k).length = ls.length - 1 := by rw [List.length_eraseIdx]; simp [show k < ls.length by exact Nat.not_le.mp (fun u9 => lin [_, _] [] (.l 1 (.v 1) (.v 0) (.l 1 (.a (.a (.v 0) (.c 1)) (.c 1)) (.v 1) .n)) (by kernel_rfl) u9 hk2)]
  refine ⟨by exact Nat.not_lt.mp (fun u9 => lin [_, _, _, _] [] (.l 1 (.a (.v 2) (.c 1)) (.c 2) (.l 1 (.c 1) (.v 0) (.l 1 (.a (.a (.v 0) (.c 1)) (.c 1)) (.v 1) (.e (-1) (.v 2) (.v 3) (.e (-1) (.a (.v 3) (.c 1)) (.v 1) .n))))) (by kernel_rfl) u9 hk hk2 hl (Nat.sub_add_cancel (Nat.not_lt.mp (fun u9 => lin [_, _] [] (.l 1 (.a (.v 0) (.c 1)) (.c 1) (.e 1 (.a (.v 1) (.c 1)) (.v 0) .n)) (by kernel_rfl) u9 (Nat.sub_add_cancel (Nat.not_lt.mp (fun u9 => lin [_, _] [] (.l 1 (.a (.v 1) (.c 1)) (.c 1) (.l 1 (.a (.a (.v 0) (.c 1)) (.c 1)) (.v 1) .n)) (by kernel_rfl) u9 hk2))))))), fun x hx => h.tri x (List.mem_of_mem_eraseIdx hx), ?_, ?_, ?_⟩
  · intro i hi
    rw [hl] at hi
    rw [getD_erase, getD_erase]
    by_cases h1 : i + 1 < k
    · rw [if_pos (by exact Nat.not_le.mp (fun u9 => lin [_, _] [] (.l 1 (.v 1) (.v 0) (.l 1 (.a (.a (.v 0) (.c 1)) (.c 1)) (.v 1) .n)) (by kernel_rfl) u9 h1)), if_pos h1]
      exact h.adj i (by exact Nat.not_le.mp (fun u9 => lin [_, _, _] [] (.l 1 (.v 1) (.a (.v 2) (.c 1)) (.l 1 (.a (.a (.v 0) (.c 1)) (.c 1)) (.v 1) (.l 1 (.a (.a (.v 2) (.c 1)) (.c 1)) (.v 0) .n))) (by kernel_rfl) u9 hk2 h1))
    · by_cases h2 : i < k
      · rw [if_pos h2, if_neg h1]
        have : k = i + 1 := by exact Nat.le_antisymm (Nat.not_lt.mp (fun u9 => lin [_, _] [] (.l 1 (.a (.a (.v 1) (.c 1)) (.c 1)) (.v 0) (.l 1 (.v 0) (.a (.v 1) (.c 1)) .n)) (by kernel_rfl) u9 (Nat.not_lt.mp h1))) (Nat.not_lt.mp (fun u9 => lin [_, _] [] (.l 1 (.a (.v 0) (.c 1)) (.a (.v 1) (.c 1)) (.l 1 (.a (.v 1) (.c 1)) (.v 0) .n)) (by kernel_rfl) u9 h2))
        subst this
        exact hne
      · rw [if_neg h2, if_neg h1]
        exact h.adj (i + 1) (by exact Nat.not_le.mp (fun u9 => lin [_, _, _] [] (.l 1 (.v 2) (.a (.a (.v 0) (.c 1)) (.c 1)) (.l 1 (.a (.a (.v 0) (.c 1)) (.c 1)) (.v 1) (.e 1 (.a (.v 1) (.c 1)) (.v 2) .n))) (by kernel_rfl) u9 hi (Nat.sub_add_cancel (Nat.not_lt.mp (fun u9 => lin [_, _] [] (.l 1 (.a (.v 1) (.c 1)) (.c 1) (.e 1 (.a (.v 0) (.c 1)) (.v 1) .n)) (by kernel_rfl) u9 (Nat.sub_add_cancel (Nat.not_lt.mp (fun u9 => lin [_, _, _] [] (.l 1 (.a (.v 2) (.c 1)) (.c 1) (.l 1 (.a (.a (.v 0) (.c 1)) (.c 1)) (.v 1) (.l 1 (.v 1) (.v 2) .n))) (by kernel_rfl) u9 hi (Nat.sub_le _ _)))))))))
  · rw [hl, getD_erase, getD_erase, if_pos (by exact Nat.not_le.mp (fun u9 => lin [_] [] (.l 1 (.v 0) (.c 0) (.l 1 (.c 1) (.v 0) .n)) (by kernel_rfl) u9 hk))]
    by_cases h1 : ls.length - 1 - 1 < k
    · exact fun u9 => lin [_, _, _, _] [_, _] (.E 0 (.v 0) (.v 1) (.l 1 (.a (.a (.v 0) (.c 1)) (.c 1)) (.v 1) (.l 1 (.a (.v 2) (.c 1)) (.v 0) (.e (-1) (.a (.v 2) (.c 1)) (.v 3) (.e (-1) (.a (.v 3) (.c 1)) (.v 1) .n))))) (by kernel_rfl) u9 hk2 h1 (Nat.sub_add_cancel (Nat.not_lt.mp (fun u9 => lin [_, _, _, _] [] (.l 0 (.a (.v 3) (.c 1)) (.c 1) (.l 1 (.a (.a (.v 0) (.c 1)) (.c 1)) (.v 1) (.l 1 (.a (.v 2) (.c 1)) (.v 0) (.e (-1) (.a (.v 2) (.c 1)) (.v 3) (.e (-1) (.a (.v 3) (.c 1)) (.v 1) .n))))) (by kernel_rfl) u9 hk2 h1 (Nat.sub_add_cancel (Nat.not_lt.mp (fun u9 => lin [_, _, _, _] [] (.l 0 (.a (.v 3) (.c 1)) (.c 1) (.l 1 (.a (.a (.v 0) (.c 1)) (.c 1)) (.v 1) (.l 1 (.a (.v 2) (.c 1)) (.v 0) (.l 1 (.v 3) (.a (.v 2) (.c 1)) (.l 1 (.v 1) (.a (.v 3) (.c 1)) .n))))) (by kernel_rfl) u9 hk2 h1 (sub_g _ _) (sub_g _ _)))) (Nat.sub_add_cancel (Nat.not_lt.mp (fun u9 => lin [_, _, _, _] [] (.l 0 (.a (.v 1) (.c 1)) (.c 1) (.l 1 (.a (.a (.v 0) (.c 1)) (.c 1)) (.v 1) (.l 1 (.a (.v 2) (.c 1)) (.v 0) (.l 1 (.v 3) (.a (.v 2) (.c 1)) (.l 1 (.v 1) (.a (.v 3) (.c 1)) .n))))) (by kernel_rfl) u9 hk2 h1 (sub_g _ _) (sub_g _ _))))))) (Nat.sub_add_cancel (Nat.not_lt.mp (fun u9 => lin [_, _, _, _] [] (.l 0 (.a (.v 1) (.c 1)) (.c 1) (.l 1 (.a (.a (.v 0) (.c 1)) (.c 1)) (.v 1) (.l 1 (.a (.v 2) (.c 1)) (.v 0) (.e (-1) (.a (.v 2) (.c 1)) (.v 3) (.e (-1) (.a (.v 3) (.c 1)) (.v 1) .n))))) (by kernel_rfl) u9 hk2 h1 (Nat.sub_add_cancel (Nat.not_lt.mp (fun u9 => lin [_, _, _, _] [] (.l 0 (.a (.v 3) (.c 1)) (.c 1) (.l 1 (.a (.a (.v 0) (.c 1)) (.c 1)) (.v 1) (.l 1 (.a (.v 2) (.c 1)) (.v 0) (.l 1 (.v 3) (.a (.v 2) (.c 1)) (.l 1 (.v 1) (.a (.v 3) (.c 1)) .n))))) (by kernel_rfl) u9 hk2 h1 (sub_g _ _) (sub_g _ _)))) (Nat.sub_add_cancel (Nat.not_lt.mp (fun u9 => lin [_, _, _, _] [] (.l 0 (.a (.v 1) (.c 1)) (.c 1) (.l 1 (.a (.a (.v 0) (.c 1)) (.c 1)) (.v 1) (.l 1 (.a (.v 2) (.c 1)) (.v 0) (.l 1 (.v 3) (.a (.v 2) (.c 1)) (.l 1 (.v 1) (.a (.v 3) (.c 1)) .n))))) (by kernel_rfl) u9 hk2 h1 (sub_g _ _) (sub_g _ _)))))))
    · rw [if_neg h1, show ls.length - 1 - 1 + 1 = ls.length - 1 by exact linn [_, _] [] (.a (.v 0) (.c 1)) (.v 1) (.e (-1) (.a (.v 0) (.c 1)) (.v 1) .n) (by kernel_rfl) (Nat.sub_add_cancel (Nat.not_lt.mp (fun u9 => lin [_, _] [] (.l 1 (.a (.v 1) (.c 1)) (.c 1) (.e 1 (.a (.v 0) (.c 1)) (.v 1) .n)) (by kernel_rfl) u9 (Nat.sub_add_cancel (Nat.not_lt.mp (fun u9 => lin [_, _, _] [] (.l 1 (.a (.v 2) (.c 1)) (.c 1) (.l 1 (.c 1) (.v 0) (.l 1 (.v 0) (.v 1) (.l 1 (.v 1) (.v 2) .n)))) (by kernel_rfl) u9 hk (Nat.not_lt.mp h1) (Nat.sub_le _ _)))))))]
      exact h.ends
  · intro h3 c hcc
    rw [hl] at h3
    have hm := h.all (by exact Nat.not_lt.mp (fun u9 => lin [_, _] [] (.l 1 (.a (.v 1) (.c 1)) (.c 3) (.l 1 (.c 1) (.v 0) (.l 1 (.a (.a (.v 0) (.c 1)) (.c 1)) (.v 1) .n))) (by kernel_rfl) u9 hk hk2)) c hcc
    have hp := List.count_pos_iff.mpr hm
    have he := count_erase (show k < ls.length by exact Nat.not_le.mp (fun u9 => lin [_, _] [] (.l 1 (.v 1) (.v 0) (.l 1 (.a (.a (.v 0) (.c 1)) (.c 1)) (.v 1) .n)) (by kernel_rfl) u9 hk2)) c
    refine List.count_pos_iff.mp ?_
    by_cases e : ls.getD k 0 = c
    · rw [if_pos e] at he
      rcases hc with hc | hc
      · exact Nat.not_le.mp (fun u9 => lin [_, _, _] [] (.l 0 (.v 2) (.c 0) (.l 1 (.c 3) (.v 0) (.e 1 (.v 1) (.c 3) (.e 1 (.a (.v 0) (.c 1)) (.v 1) .n)))) (by kernel_rfl) u9 h3 hc (Nat.sub_add_cancel (Nat.not_lt.mp (fun u9 => lin [_] [] (.l 1 (.a (.v 0) (.c 1)) (.c 1) (.e (-1) (.v 0) (.c 3) .n)) (by kernel_rfl) u9 hc))))
      · rw [e] at hc; exact Nat.not_le.mp (fun u9 => lin [_, _] [] (.l 1 (.v 1) (.c 0) (.e 1 (.v 0) (.a (.v 1) (.c 1)) (.l 1 (.a (.c 1) (.c 1)) (.v 0) .n))) (by kernel_rfl) u9 he hc)
    · rw [if_neg e] at he; exact Nat.not_le.mp (fun u9 => lin [_, _] [] (.l 1 (.v 1) (.c 0) (.l 1 (.a (.c 0) (.c 1)) (.v 0) (.e 1 (.v 0) (.a (.v 1) (.c 0)) .n))) (by kernel_rfl) u9 hp he)
theorem depthsOf_app : ∀ (p q : List Pce) (d : Int), depthsOf d (p ++ q) = depthsOf d p ++ depthsOf (d + net p) q
  | [], q, d => by simp [depthsOf, net]
  | .op :: r, q, d => by
    show depthsOf (d + 1) (r ++ q) = depthsOf (d + 1) r ++ depthsOf (d + (net r + 1)) q
    rw [depthsOf_app r q, show d + 1 + net r = d + (net r + 1) by exact linz [] [_, _] (.a (.a (.v 0) (.i 1)) (.v 1)) (.a (.v 0) (.a (.v 1) (.i 1))) .n (by kernel_rfl)]
  | .cl :: r, q, d => by
    show depthsOf (d - 1) (r ++ q) = depthsOf (d - 1) r ++ depthsOf (d + (net r - 1)) q
    rw [depthsOf_app r q, show d - 1 + net r = d + (net r - 1) by exact linz [] [_, _] (.a (.s (.v 0) (.i 1)) (.v 1)) (.a (.v 0) (.s (.v 1) (.i 1))) .n (by kernel_rfl)]
  | .lab i :: r, q, d => by
    show d :: depthsOf d (r ++ q) = d :: (depthsOf d r ++ depthsOf (d + net r) q)
    rw [depthsOf_app r q]
theorem net_app : ∀ (p q : List Pce), net (p ++ q) = net p + net q
  | [], q => by simp [net]
  | .op :: r, q => by show net (r ++ q) + 1 = net r + 1 + net q; rw [net_app r q]; exact linz [] [_, _] (.a (.a (.v 0) (.v 1)) (.i 1)) (.a (.a (.v 0) (.i 1)) (.v 1)) .n (by kernel_rfl)
  | .cl :: r, q => by show net (r ++ q) - 1 = net r - 1 + net q; rw [net_app r q]; exact linz [] [_, _] (.s (.a (.v 0) (.v 1)) (.i 1)) (.a (.s (.v 0) (.i 1)) (.v 1)) .n (by kernel_rfl)
  | .lab i :: r, q => by show net (r ++ q) = net r + net q; rw [net_app r q]
theorem depthsOf_up : ∀ (p : List Pce) (d : Int), depthsOf (d + 1) p = (depthsOf d p).map (· + 1)
  | [], d => rfl
  | .op :: r, d => depthsOf_up r (d + 1)
  | .cl :: r, d => by
    show depthsOf (d + 1 - 1) r = (depthsOf (d - 1) r).map (· + 1)
    rw [← depthsOf_up r (d - 1), show d - 1 + 1 = d + 1 - 1 by exact linz [] [_] (.a (.s (.v 0) (.i 1)) (.i 1)) (.s (.a (.v 0) (.i 1)) (.i 1)) .n (by kernel_rfl)]
  | .lab i :: r, d => by
    show (d + 1) :: depthsOf (d + 1) r = (d + 1) :: (depthsOf d r).map (· + 1)
    rw [depthsOf_up r d]
theorem walkK_app : ∀ (p q : List Int) (x δ : Int), walkK x δ (p ++ q) = walkK x δ p ++ walkK ((walkK x δ p).getLastD x) δ q
  | [], q, x, δ => rfl
  | d :: r, q, x, δ => by
    show stepK x δ d :: walkK (stepK x δ d) δ (r ++ q) = stepK x δ d :: (walkK (stepK x δ d) δ r ++ walkK ((stepK x δ d :: walkK (stepK x δ d) δ r).getLastD x) δ q)
    rw [walkK_app r q, List.getLastD_cons]
theorem fmod3 (a : Int) : Int.fmod a 3 = a % 3 := Int.fmod_eq_emod_of_nonneg _ (by decide)
theorem par_step (d : Int) : Int.fmod d 2 = 0 ∧ Int.fmod (d + 1) 2 = 1 ∨ Int.fmod d 2 = 1 ∧ Int.fmod (d + 1) 2 = 0 := by
  rw [Int.fmod_eq_emod_of_nonneg _ (by decide), Int.fmod_eq_emod_of_nonneg _ (by decide)]
  lia
theorem step_plus (x : Int) {a b : Int} (h : (a - b) % 3 = 0) : Int.fmod (x + a) 3 = Int.fmod (x + b) 3 := by
  rw [fmod3, fmod3]
  lia
theorem third_kind {y m e : Int} (hy : Tri y) (hm : Tri m) (he : Tri e) (h1 : y ≠ m) (h2 : m ≠ e) (h3 : y ≠ e) : (m - y + (e - y)) % 3 = 0 ∧ (e - m + (e - y)) % 3 = 0 := by
  rcases hy with rfl | rfl | rfl <;> rcases hm with rfl | rfl | rfl <;> rcases he with rfl | rfl | rfl <;> first | exact absurd rfl h1 | exact absurd rfl h2 | exact absurd rfl h3 | decide
theorem stepK_turn {x y m e d : Int} (hy : Tri y) (hm : Tri m) (he : Tri e) (h1 : y ≠ m) (h2 : m ≠ e) (h3 : y ≠ e) : stepK x (e - y) (d + 1) = stepK x (m - y) d ∧ stepK x (e - y) (d + 1) = stepK x (e - m) d := by
  unfold stepK
  obtain ⟨k1, k2⟩ := third_kind hy hm he h1 h2 h3
  clear hy hm he h1 h2 h3
  rcases par_step d with ⟨a, b⟩ | ⟨a, b⟩
  · rw [a, b, if_neg (by decide), if_pos rfl, if_pos rfl]
    exact ⟨step_plus x (by lia), step_plus x (by lia)⟩
  · rw [a, b, if_pos rfl, if_neg (by decide), if_neg (by decide)]
    exact ⟨step_plus x (by lia), step_plus x (by lia)⟩
theorem walkK_turn {y m e : Int} (hy : Tri y) (hm : Tri m) (he : Tri e) (h1 : y ≠ m) (h2 : m ≠ e) (h3 : y ≠ e) : ∀ (ds : List Int) (x : Int), walkK x (e - y) (ds.map (· + 1)) = walkK x (m - y) ds ∧ walkK x (e - y) (ds.map (· + 1)) = walkK x (e - m) ds
  | [], x => ⟨rfl, rfl⟩
  | d :: r, x => by
    have hs := stepK_turn (x := x) (d := d) hy hm he h1 h2 h3
    constructor
    · show stepK x (e - y) (d + 1) :: walkK (stepK x (e - y) (d + 1)) (e - y) (r.map (· + 1)) = stepK x (m - y) d :: walkK (stepK x (m - y) d) (m - y) r
      rw [hs.1, (walkK_turn hy hm he h1 h2 h3 r _).1]
    · show stepK x (e - y) (d + 1) :: walkK (stepK x (e - y) (d + 1)) (e - y) (r.map (· + 1)) = stepK x (e - m) d :: walkK (stepK x (e - m) d) (e - m) r
      rw [hs.2, (walkK_turn hy hm he h1 h2 h3 r _).2]
theorem merge_ok {y : Int} {a b : Blk} (ha : BOk y a) (hb : BOk (endK a) b) (hy : Tri y) (hm : Tri (endK a)) (he : Tri (endK b)) (h1 : y ≠ endK a) (h2 : endK a ≠ endK b) (h3 : y ≠ endK b) : BOk y (merge a b) := by
  have ek : endK (merge a b) = endK b := endK_merge a b hb.kne
  refine ⟨?_, ?_, ?_, ?_⟩
  · show a.kds ++ b.kds ≠ []
    intro h
    exact hb.kne (List.append_eq_nil_iff.mp h).2
  · show depthsOf (0 + 1) (a.pcs ++ b.pcs ++ [.cl]) = (a.deps ++ b.deps).map (· + 1)
    rw [depthsOf_up, depthsOf_app, depthsOf_app, ha.dep, ha.nt]
    show ((a.deps ++ depthsOf (0 + 0) b.pcs) ++ []).map (· + 1) = _
    rw [Int.add_zero, hb.dep, List.append_nil]
  · show net (a.pcs ++ b.pcs ++ [.cl]) + 1 = 0
    rw [net_app, net_app, ha.nt, hb.nt]
    rfl
  · rw [ek]
    show a.kds ++ b.kds = walkK y (endK b - y) ((a.deps ++ b.deps).map (· + 1))
    rw [List.map_append, walkK_app, (walkK_turn hy hm he h1 h2 h3 a.deps y).1, ← ha.wk]
    have hl : a.kds.getLastD y = endK a := by
      unfold endK
      rw [List.getLastD_eq_getLast?, List.getLastD_eq_getLast?]
      cases hq : a.kds.getLast? with
      | none => rw [List.getLast?_eq_none_iff] at hq; exact absurd hq ha.kne
      | some v => rfl
    rw [hl, (walkK_turn hy hm he h1 h2 h3 b.deps _).2, ← hb.wk]
theorem chain_cut : ∀ (bs : List Blk) (i : Nat) (x : Int), Chain x bs → i + 1 < bs.length → (∀ j, j < (lsOf x bs).length → Tri ((lsOf x bs).getD j 0)) → (∀ j, j + 1 < (lsOf x bs).length → (lsOf x bs).getD j 0 ≠ (lsOf x bs).getD (j + 1) 0) →
    (lsOf x bs).getD i 0 ≠ (lsOf x bs).getD (i + 2) 0 → Chain x (cutB bs i)
  | a :: b :: r, 0, x, h, _, ht, hj, hne => by
    have hl : 3 ≤ (lsOf x (a :: b :: r)).length := by simp [lsOf]
    have hm := merge_ok h.1 h.2.1 (ht 0 (by exact Nat.not_le.mp (fun u9 => lin [_] [] (.l 1 (.v 0) (.c 0) (.l 1 (.c 3) (.v 0) .n)) (by kernel_rfl) u9 hl))) (ht 1 (by exact Nat.not_le.mp (fun u9 => lin [_] [] (.l 1 (.v 0) (.c 1) (.l 1 (.c 3) (.v 0) .n)) (by kernel_rfl) u9 hl))) (ht 2 (by exact Nat.not_le.mp (fun u9 => lin [_] [] (.l 1 (.v 0) (.c 2) (.l 1 (.c 3) (.v 0) .n)) (by kernel_rfl) u9 hl))) (hj 0 (by exact Nat.not_le.mp (fun u9 => lin [_] [] (.l 1 (.v 0) (.c (0 + 1)) (.l 1 (.c 3) (.v 0) .n)) (by kernel_rfl) u9 hl))) (hj 1 (by exact Nat.not_le.mp (fun u9 => lin [_] [] (.l 1 (.v 0) (.c (1 + 1)) (.l 1 (.c 3) (.v 0) .n)) (by kernel_rfl) u9 hl))) hne
    refine ⟨hm, ?_⟩
    rw [endK_merge a b h.2.1.kne]
    exact h.2.2
  | a :: r, i + 1, x, h, hl, ht, hj, hne => by
    refine ⟨h.1, chain_cut r i (endK a) h.2 (by simpa using hl) (fun j hq => ?_) (fun j hq => ?_) hne⟩
    · exact ht (j + 1) (by simp [lsOf] at hq ⊢; exact Nat.not_le.mp (fun u9 => lin [_, _] [] (.l 1 (.a (.v 1) (.c 1)) (.v 0) (.l 1 (.a (.v 0) (.c 1)) (.a (.v 1) (.c 1)) .n)) (by kernel_rfl) u9 hq))
    · exact hj (j + 1) (by simp [lsOf] at hq ⊢; exact Nat.not_le.mp (fun u9 => lin [_, _] [] (.l 1 (.v 1) (.v 0) (.l 1 (.a (.v 0) (.c 1)) (.v 1) .n)) (by kernel_rfl) u9 hq))
  | [], _, _, _, h, _, _, _ => absurd h (by simp)
  | [a], 0, _, _, h, _, _, _ => absurd h (by simp)
theorem inv_cut {x0 : Int} {bs : List Blk} (h : BInv x0 bs) {k : Nat} (hk : 1 ≤ k) (hk2 : k < bs.length) (hf : isFree (lsOf x0 bs) k = true) : BInv x0 (cutB bs (k - 1)) := by
  have hl : (lsOf x0 bs).length = bs.length + 1 := by simp [lsOf]
  have hf' := hf
  unfold isFree at hf'
  rw [Bool.and_eq_true, Bool.not_eq_true', decide_eq_false_iff_not] at hf'
  refine ⟨?_, chain_cut bs (k - 1) x0 h.ch (by exact Nat.not_le.mp (fun u9 => lin [_, _, _] [] (.l 1 (.v 1) (.a (.v 2) (.c 1)) (.l 1 (.a (.v 0) (.c 1)) (.v 1) (.e 1 (.a (.v 2) (.c 1)) (.v 0) .n))) (by kernel_rfl) u9 hk2 (Nat.sub_add_cancel (Nat.not_lt.mp (fun u9 => lin [_] [] (.l 1 (.a (.v 0) (.c 1)) (.c 1) (.l 1 (.c 1) (.v 0) .n)) (by kernel_rfl) u9 hk))))) (fun j hj => tri_at h.ls.tri hj) h.ls.adj ?_⟩
  · rw [ls_cut x0 bs (k - 1) (by exact Nat.not_le.mp (fun u9 => lin [_, _, _] [] (.l 1 (.v 1) (.a (.v 2) (.c 1)) (.l 1 (.a (.v 0) (.c 1)) (.v 1) (.e 1 (.a (.v 2) (.c 1)) (.v 0) .n))) (by kernel_rfl) u9 hk2 (Nat.sub_add_cancel (Nat.not_lt.mp (fun u9 => lin [_] [] (.l 1 (.a (.v 0) (.c 1)) (.c 1) (.l 1 (.c 1) (.v 0) .n)) (by kernel_rfl) u9 hk))))) (chain_kne bs x0 h.ch), show k - 1 + 1 = k by exact linn [_, _] [] (.a (.v 1) (.c 1)) (.v 0) (.e (-1) (.a (.v 1) (.c 1)) (.v 0) .n) (by kernel_rfl) (Nat.sub_add_cancel (Nat.not_lt.mp (fun u9 => lin [_] [] (.l 1 (.a (.v 0) (.c 1)) (.c 1) (.l 1 (.c 1) (.v 0) .n)) (by kernel_rfl) u9 hk)))]
    exact ls_free h.ls hk (by exact Nat.not_le.mp (fun u9 => lin [_, _, _] [] (.l 1 (.v 2) (.a (.v 0) (.c 1)) (.l 1 (.a (.v 0) (.c 1)) (.v 1) (.e (-1) (.v 2) (.a (.v 1) (.c 1)) .n))) (by kernel_rfl) u9 hk2 hl)) hf
  · rw [show k - 1 + 2 = k + 1 by exact linn [_, _] [] (.a (.v 1) (.c 2)) (.a (.v 0) (.c 1)) (.e (-1) (.a (.v 1) (.c 1)) (.v 0) .n) (by kernel_rfl) (Nat.sub_add_cancel (Nat.not_lt.mp (fun u9 => lin [_] [] (.l 1 (.a (.v 0) (.c 1)) (.c 1) (.l 1 (.c 1) (.v 0) .n)) (by kernel_rfl) u9 hk)))]
    exact hf'.1
end
section
theorem labB_plain (i : Fin 6) : True := trivial
theorem net_count : ∀ ps : List Pce, ((bB (brk ps)).count 40 : Int) - ((bB (brk ps)).count 41 : Int) = net ps
  | [] => rfl
  | .op :: r => by
    have ih := net_count r
    have e : bB (brk (.op :: r)) = 40 :: bB (brk r) := rfl
    rw [e, List.count_cons_self, List.count_cons_of_ne (by decide)]
    show _ = net r + 1
    exact linz [_, _] [_] (.s (.z (.a (.v 0) (.c 1))) (.z (.v 1))) (.a (.v 0) (.i 1)) (.E (-1) (.s (.z (.v 0)) (.z (.v 1))) (.v 0) .n) (by kernel_rfl) ih
  | .cl :: r => by
    have ih := net_count r
    have e : bB (brk (.cl :: r)) = 41 :: bB (brk r) := rfl
    rw [e, List.count_cons_self, List.count_cons_of_ne (by decide)]
    show _ = net r - 1
    exact linz [_, _] [_] (.s (.z (.v 0)) (.z (.a (.v 1) (.c 1)))) (.s (.v 0) (.i 1)) (.E (-1) (.s (.z (.v 0)) (.z (.v 1))) (.v 0) .n) (by kernel_rfl) ih
  | .lab i :: r => net_count r
/-- the sides at first -/
noncomputable def bs0 (ns rg : List Int) : List Blk := (List.range (rg.length - 1)).map (blk0 ns rg)
theorem ls0 (ns rg : List Int) (h : rg ≠ []) : lsOf (rg.getD 0 0) (bs0 ns rg) = rg := by
  apply List.ext_getElem?
  intro i
  have hl : (lsOf (rg.getD 0 0) (bs0 ns rg)).length = rg.length := by
    have := List.length_pos_iff.mpr h
    simp [lsOf, bs0]; exact linn [_, _] [] (.a (.v 1) (.c 1)) (.v 0) (.e (-1) (.a (.v 1) (.c 1)) (.v 0) .n) (by kernel_rfl) (Nat.sub_add_cancel (Nat.not_lt.mp (fun u9 => lin [_] [] (.l 1 (.a (.v 0) (.c 1)) (.c 1) (.l 1 (.a (.c 0) (.c 1)) (.v 0) .n)) (by kernel_rfl) u9 this)))
  cases i with
  | zero =>
    show some (rg.getD 0 0) = rg[0]?
    cases rg with
    | nil => exact absurd rfl h
    | cons a r => rfl
  | succ i =>
    by_cases hi : i + 1 < rg.length
    · show ((bs0 ns rg).map endK)[i]? = _
      unfold bs0
      rw [List.map_map, List.getElem?_map, List.getElem?_range (by exact Nat.not_le.mp (fun u9 => lin [_, _, _] [] (.l 1 (.v 2) (.v 0) (.l 1 (.a (.a (.v 0) (.c 1)) (.c 1)) (.v 1) (.e (-1) (.a (.v 2) (.c 1)) (.v 1) .n))) (by kernel_rfl) u9 hi (Nat.sub_add_cancel (Nat.not_lt.mp (fun u9 => lin [_, _] [] (.l 1 (.a (.v 1) (.c 1)) (.c 1) (.l 1 (.a (.a (.v 0) (.c 1)) (.c 1)) (.v 1) .n)) (by kernel_rfl) u9 hi)))))]
      show some (rg.getD (i + 1) 0) = _
      rw [List.getD_eq_getElem?_getD, List.getElem?_eq_getElem hi]
      rfl
    · rw [List.getElem?_eq_none (by exact Nat.not_lt.mp (fun u9 => lin [_, _, _] [] (.l 1 (.a (.a (.v 2) (.c 1)) (.c 1)) (.v 0) (.e 1 (.v 0) (.v 1) (.l 1 (.v 1) (.a (.v 2) (.c 1)) .n))) (by kernel_rfl) u9 hl (Nat.not_lt.mp hi))), List.getElem?_eq_none (by exact Nat.not_lt.mp (fun u9 => lin [_, _] [] (.l 1 (.a (.a (.v 1) (.c 1)) (.c 1)) (.v 0) (.l 1 (.v 0) (.a (.v 1) (.c 1)) .n)) (by kernel_rfl) u9 (Nat.not_lt.mp hi)))]
theorem blk_ok {ns rg : List Int} {x : Int} {k : Nat} (ht : Tri (rg.getD (k + 1) 0)) : BOk x (blk0 ns rg k) := by
  refine ⟨by simp [blk0], rfl, rfl, ?_⟩
  show [rg.getD (k + 1) 0] = [stepK x (rg.getD (k + 1) 0 - x) 0]
  unfold stepK
  rw [if_pos (by decide), show x + (rg.getD (k + 1) 0 - x) = rg.getD (k + 1) 0 by exact linz [] [_, _] (.a (.v 0) (.s (.v 1) (.v 0))) (.v 1) .n (by kernel_rfl), Int.fmod_eq_emod_of_nonneg _ (by decide)]
  unfold Tri at ht
  congr 1
  lia
theorem chain_all : ∀ (bs : List Blk) (x : Int), (∀ b ∈ bs, ∀ y, BOk y b) → Chain x bs
  | [], _, _ => trivial
  | b :: r, x, h => ⟨h b (.head _) x, chain_all r _ fun c hc => h c (.tail _ hc)⟩
theorem inv0 {ns rg : List Int} (h : LsOk rg) : BInv (rg.getD 0 0) (bs0 ns rg) := by
  have hne : rg ≠ [] := by intro e; have := h.two; rw [e] at this; simp at this
  refine ⟨by rw [ls0 ns rg hne]; exact h, chain_all _ _ fun b hb y => ?_⟩
  obtain ⟨k, hk, rfl⟩ := List.mem_map.mp hb
  have := List.mem_range.mp hk
  exact blk_ok (tri_at h.tri (by exact Nat.not_le.mp (fun u9 => lin [_, _, _] [] (.l 1 (.v 2) (.a (.v 0) (.c 1)) (.l 1 (.a (.v 0) (.c 1)) (.v 1) (.e 1 (.a (.v 1) (.c 1)) (.v 2) .n))) (by kernel_rfl) u9 this (Nat.sub_add_cancel (Nat.not_lt.mp (fun u9 => lin [_, _] [] (.l 1 (.a (.v 1) (.c 1)) (.c 1) (.e 1 (.a (.v 0) (.c 1)) (.v 1) .n)) (by kernel_rfl) u9 (Nat.sub_add_cancel (Nat.not_lt.mp (fun u9 => lin [_, _, _] [] (.l 1 (.a (.v 2) (.c 1)) (.c 1) (.l 1 (.a (.v 0) (.c 1)) (.v 1) (.l 1 (.v 1) (.v 2) .n))) (by kernel_rfl) u9 this (Nat.sub_le _ _))))))))))
theorem spans_range (f : Nat → Blk) (h : ∀ k, (f k).deps.length = 1) : ∀ (n s : Nat), spans s ((List.range' s n).map f) = (List.range' s n).map fun k => (k, 1)
  | 0, _ => rfl
  | n + 1, s => by
    rw [List.range'_succ, List.map_cons, List.map_cons]
    show (s, (f s).deps.length) :: spans (s + (f s).deps.length) _ = _
    rw [h, spans_range f h n (s + 1)]
theorem spans0 (ns rg : List Int) : spans 0 (bs0 ns rg) = (List.range (rg.length - 1)).map fun k => (k, 1) := by
  unfold bs0
  rw [List.range_eq_range']
  exact spans_range (blk0 ns rg) (fun _ => rfl) _ 0
theorem deep0 (ns rg : List Int) : deepOf (bs0 ns rg) = List.replicate (rg.length - 1) 0 := by
  unfold deepOf bs0
  generalize rg.length - 1 = n
  induction n with
  | zero => rfl
  | succ n ih => rw [List.range_succ, List.map_append, List.flatMap_append, ih, List.replicate_succ']; rfl
/-- one side is left: the ring, from its depths -/
theorem one_left {x0 : Int} {b : Blk} (h : BInv x0 [b]) : depthsOf 0 b.pcs = b.deps ∧ net b.pcs = 0 ∧ b.kds = walkK x0 (endK b - x0) b.deps ∧ endK b ≠ x0 := by
  have e := h.ls.ends
  exact ⟨h.ch.1.dep, h.ch.1.nt, h.ch.1.wk, fun q => e q.symm⟩
end
section
theorem flat_cut : ∀ (bs : List Blk) (i : Nat), (cutB bs i).flatMap (·.kds) = bs.flatMap (·.kds)
  | a :: b :: r, 0 => by
    show (a.kds ++ b.kds) ++ r.flatMap (·.kds) = a.kds ++ (b.kds ++ r.flatMap (·.kds))
    rw [List.append_assoc]
  | a :: r, i + 1 => by
    show a.kds ++ (cutB r i).flatMap (·.kds) = a.kds ++ r.flatMap (·.kds)
    rw [flat_cut r i]
  | [], 0 => rfl
  | [], _ + 1 => rfl
  | [a], 0 => rfl
theorem pcs_cut : ∀ (bs : List Blk) (i : Nat), i + 1 < bs.length → ((cutB bs i).flatMap (·.pcs)).length = (bs.flatMap (·.pcs)).length + 2
  | a :: b :: r, 0, _ => by
    show (((.op :: (a.pcs ++ b.pcs ++ [.cl])) ++ r.flatMap (·.pcs)) : List Pce).length = (a.pcs ++ (b.pcs ++ r.flatMap (·.pcs))).length + 2
    simp only [List.length_append, List.length_cons, List.length_nil]; exact linn [_, _, _] [] (.a (.a (.a (.a (.v 0) (.v 1)) (.c (0 + 1))) (.c 1)) (.v 2)) (.a (.a (.v 0) (.a (.v 1) (.v 2))) (.c 2)) .n (by kernel_rfl)
  | a :: r, i + 1, h => by
    show (a.pcs ++ (cutB r i).flatMap (·.pcs)).length = (a.pcs ++ r.flatMap (·.pcs)).length + 2
    rw [List.length_append, pcs_cut r i (by simpa using h), List.length_append]; exact linn [_, _] [] (.a (.v 0) (.a (.v 1) (.c 2))) (.a (.a (.v 0) (.v 1)) (.c 2)) .n (by kernel_rfl)
  | [], _, h => absurd h (by simp)
  | [a], 0, h => absurd h (by simp)
noncomputable def Adj (l : List Int) : Prop := ∀ i, i + 1 < l.length → l.getD i 0 ≠ l.getD (i + 1) 0
theorem getD_app1 {l r : List Int} {i : Nat} (h : i < l.length) : (l ++ r).getD i 0 = l.getD i 0 := by
  rw [List.getD_eq_getElem?_getD, List.getElem?_append_left h, ← List.getD_eq_getElem?_getD]
theorem getD_app2 {l r : List Int} {i : Nat} (h : l.length ≤ i) : (l ++ r).getD i 0 = r.getD (i - l.length) 0 := by
  rw [List.getD_eq_getElem?_getD, List.getElem?_append_right h, ← List.getD_eq_getElem?_getD]
theorem adj_snoc {l : List Int} {k t : Int} (h : Adj (l ++ [k])) (hn : k ≠ t) : Adj (l ++ [k] ++ [t]) := by
  intro i hi
  simp only [List.length_append, List.length_cons, List.length_nil] at hi
  by_cases h1 : i + 1 < (l ++ [k]).length
  · rw [getD_app1 h1, getD_app1 (by exact Nat.not_le.mp (fun u9 => lin [_, _] [] (.l 1 (.v 1) (.v 0) (.l 1 (.a (.a (.v 0) (.c 1)) (.c 1)) (.v 1) .n)) (by kernel_rfl) u9 h1))]
    exact h i h1
  · simp only [List.length_append, List.length_cons, List.length_nil] at h1
    have hi' : i = l.length := by exact Nat.le_antisymm (Nat.not_lt.mp (fun u9 => lin [_, _] [] (.l 1 (.a (.v 1) (.c 1)) (.v 0) (.l 1 (.a (.a (.v 0) (.c 1)) (.c 1)) (.a (.a (.v 1) (.c (0 + 1))) (.c (0 + 1))) .n)) (by kernel_rfl) u9 hi)) (Nat.not_lt.mp (fun u9 => lin [_, _] [] (.l 1 (.a (.v 0) (.c 1)) (.v 1) (.l 1 (.a (.v 1) (.c (0 + 1))) (.a (.v 0) (.c 1)) .n)) (by kernel_rfl) u9 (Nat.not_lt.mp h1)))
    subst hi'
    have e1 : (l ++ [k] ++ [t]).getD l.length 0 = k := by rw [getD_app1 (by simp), getD_app2 (Nat.le_refl _), Nat.sub_self]; rfl
    have e2 : (l ++ [k] ++ [t]).getD (l.length + 1) 0 = t := by rw [getD_app2 (by simp)]; simp
    rw [e1, e2]
    exact hn
theorem kNext_ne {k x : Int} (hk : Tri k) : k ≠ kNext k x := by
  unfold kNext
  have h2 : Int.fmod x 2 = 0 ∨ Int.fmod x 2 = 1 := by
    rw [Int.fmod_eq_emod_of_nonneg _ (by decide)]; lia
  rw [Int.fmod_eq_emod_of_nonneg (k + 1 + Int.fmod x 2) (by decide)]
  unfold Tri at hk
  lia
theorem kGo_adj : ∀ (r : List Int) (ks : List Int) (k : Int), Tri k → Adj (ks ++ [k]) → Adj ((kGo ks k r).1 ++ [(kGo ks k r).2])
  | [], _, _, _, h => h
  | x :: r, ks, k, hk, h => kGo_adj r _ _ (kNext_tri k x) (adj_snoc h (kNext_ne hk))
theorem kGo_pre : ∀ (r : List Int) (ks : List Int) (k : Int), ∃ q, (kGo ks k r).1 ++ [(kGo ks k r).2] = ks ++ [k] ++ q
  | [], ks, k => ⟨[], by simp [kGo]⟩
  | x :: r, ks, k => by
    obtain ⟨q, e⟩ := kGo_pre r (ks ++ [k]) (kNext k x)
    exact ⟨[kNext k x] ++ q, by show (kGo (ks ++ [k]) (kNext k x) r).1 ++ [(kGo (ks ++ [k]) (kNext k x) r).2] = _; rw [e]; simp⟩
theorem kinds_ok (ns : List Int) : Adj (kinds ns) ∧ (∃ q, kinds ns = [0, 1, 2] ++ q) ∧ (kinds ns).getD ((kinds ns).length - 1) 0 ≠ 0 := by
  have ha : Adj ((kGo [0, 1] 2 ns).1 ++ [(kGo [0, 1] 2 ns).2]) := kGo_adj ns [0, 1] 2 (.inr (.inr rfl)) (by
    intro i hi
    match i with
    | 0 => decide
    | 1 => decide
    | i + 2 => simp at hi; exact fun u9 => lin [_] [_, _] (.E 0 (.v 0) (.v 1) (.l 1 (.a (.a (.a (.v 0) (.c 2)) (.c 1)) (.c 1)) (.c 3) .n)) (by kernel_rfl) u9 hi)
  obtain ⟨q, hq⟩ := kGo_pre ns [0, 1] 2
  unfold kinds
  split
  · rename_i h0
    have hm : Int.fmod (Int.fdiv (ns.headD 0) 2) 2 = 0 ∨ Int.fmod (Int.fdiv (ns.headD 0) 2) 2 = 1 := by
      rw [Int.fmod_eq_emod_of_nonneg _ (by decide)]; lia
    refine ⟨adj_snoc ha (by rw [h0]; lia), ⟨q ++ [1 + Int.fmod (Int.fdiv (ns.headD 0) 2) 2], by rw [hq]; simp⟩, ?_⟩
    rw [getD_app2 (by simp)]
    simp only [List.length_append, List.length_cons, List.length_nil]
    rw [show ((kGo [0, 1] 2 ns).1.length + (0 + 1) + (0 + 1) - 1 - ((kGo [0, 1] 2 ns).1.length + (0 + 1))) = 0 by exact linn [_, _, _] [] (.v 0) (.c 0) (.e (-1) (.a (.v 0) (.a (.v 1) (.c (0 + 1)))) (.v 2) (.e (-1) (.a (.v 2) (.c 1)) (.a (.a (.v 1) (.c (0 + 1))) (.c (0 + 1))) .n)) (by kernel_rfl) (Nat.sub_add_cancel (Nat.not_lt.mp (fun u9 => lin [_, _] [] (.l 1 (.a (.v 0) (.c 1)) (.a (.v 1) (.c (0 + 1))) (.e (-1) (.a (.v 0) (.c 1)) (.a (.a (.v 1) (.c (0 + 1))) (.c (0 + 1))) .n)) (by kernel_rfl) u9 (Nat.sub_add_cancel (Nat.not_lt.mp (fun u9 => lin [_] [] (.l 1 (.a (.a (.a (.v 0) (.c (0 + 1))) (.c (0 + 1))) (.c 1)) (.c 1) .n) (by kernel_rfl) u9)))))) (Nat.sub_add_cancel (Nat.not_lt.mp (fun u9 => lin [_] [] (.l 1 (.a (.a (.a (.v 0) (.c (0 + 1))) (.c (0 + 1))) (.c 1)) (.c 1) .n) (by kernel_rfl) u9)))]
    show 1 + Int.fmod (Int.fdiv (ns.headD 0) 2) 2 ≠ 0
    lia
  · rename_i h0
    refine ⟨ha, ⟨q, hq⟩, ?_⟩
    rw [getD_app2 (by simp)]
    simpa using h0
theorem rot_get (K : List Int) (b i : Nat) (hb : b < K.length) (hi : i < K.length) : (K.drop b ++ K.take b).getD i 0 = K.getD ((i + b) % K.length) 0 := by
  by_cases h : i < K.length - b
  · rw [getD_app1 (by simpa using h), Nat.mod_eq_of_lt (by exact Nat.not_le.mp (fun u9 => lin [_, _, _, _] [] (.l 1 (.v 1) (.a (.v 2) (.v 0)) (.l 1 (.a (.v 2) (.c 1)) (.v 3) (.e 1 (.a (.v 3) (.v 0)) (.v 1) .n))) (by kernel_rfl) u9 h (Nat.sub_add_cancel (Nat.not_lt.mp (fun u9 => lin [_, _] [] (.l 1 (.a (.v 1) (.c 1)) (.v 0) (.l 1 (.a (.v 0) (.c 1)) (.v 1) .n)) (by kernel_rfl) u9 hb)))))]
    simp only [List.getD_eq_getElem?_getD, List.getElem?_drop]
    rw [Nat.add_comm]
  · rw [getD_app2 (by simp; exact Nat.not_lt.mp (fun u9 => lin [_, _, _, _] [] (.l 1 (.a (.a (.v 3) (.v 0)) (.c 1)) (.v 1) (.l 1 (.v 2) (.v 3) (.e (-1) (.a (.v 2) (.v 0)) (.v 1) .n))) (by kernel_rfl) u9 (Nat.not_lt.mp h) (Nat.sub_add_cancel (Nat.not_lt.mp (fun u9 => lin [_, _] [] (.l 1 (.a (.v 1) (.c 1)) (.v 0) (.l 1 (.a (.v 0) (.c 1)) (.v 1) .n)) (by kernel_rfl) u9 hb))))), List.length_drop]
    have : (i + b) % K.length = i + b - K.length := by
      rw [Nat.mod_eq_sub_mod (by exact Nat.not_lt.mp (fun u9 => lin [_, _, _, _] [] (.l 1 (.a (.a (.v 3) (.v 0)) (.c 1)) (.v 1) (.l 1 (.v 2) (.v 3) (.e (-1) (.a (.v 2) (.v 0)) (.v 1) .n))) (by kernel_rfl) u9 (Nat.not_lt.mp h) (Nat.sub_add_cancel (Nat.not_lt.mp (fun u9 => lin [_, _] [] (.l 1 (.a (.v 1) (.c 1)) (.v 0) (.l 1 (.a (.v 0) (.c 1)) (.v 1) .n)) (by kernel_rfl) u9 hb))))), Nat.mod_eq_of_lt (by exact Or.elim (Nat.le_total (i + b) (K.length)) (fun q0 => Nat.not_le.mp (fun u9 => lin [_, _, _] [] (.l 1 (.v 1) (.v 2) (.l 1 (.a (.v 0) (.c 1)) (.v 1) (.e 1 (.v 2) (.c 0) .n))) (by kernel_rfl) u9 hb (Nat.sub_eq_zero_of_le (Nat.not_lt.mp (fun u9 => lin [_, _, _] [] (.l 1 (.a (.v 1) (.c 1)) (.a (.v 2) (.v 0)) (.l 1 (.a (.v 2) (.v 0)) (.v 1) .n)) (by kernel_rfl) u9 q0))))) (fun q0 => Nat.not_le.mp (fun u9 => lin [_, _, _, _] [] (.l 1 (.v 1) (.v 3) (.l 1 (.a (.v 0) (.c 1)) (.v 1) (.l 1 (.a (.v 2) (.c 1)) (.v 1) (.e 1 (.a (.v 3) (.v 1)) (.a (.v 2) (.v 0)) .n)))) (by kernel_rfl) u9 hb hi (Nat.sub_add_cancel (Nat.not_lt.mp (fun u9 => lin [_, _, _] [] (.l 1 (.a (.a (.v 2) (.v 0)) (.c 1)) (.v 1) (.l 1 (.v 1) (.a (.v 2) (.v 0)) .n)) (by kernel_rfl) u9 q0))))))]
    rw [this]
    simp only [List.getD_eq_getElem?_getD]
    rw [List.getElem?_take_of_lt (by exact Nat.not_le.mp (fun u9 => lin [_, _, _, _, _] [] (.l 1 (.v 0) (.v 4) (.l 1 (.a (.v 2) (.c 1)) (.v 1) (.e (-1) (.a (.v 3) (.v 0)) (.v 1) (.e 1 (.a (.v 4) (.v 3)) (.v 2) .n)))) (by kernel_rfl) u9 hi (Nat.sub_add_cancel (Nat.not_lt.mp (fun u9 => lin [_, _] [] (.l 1 (.a (.v 1) (.c 1)) (.v 0) (.l 1 (.a (.v 0) (.c 1)) (.v 1) .n)) (by kernel_rfl) u9 hb))) (Nat.sub_add_cancel (Nat.not_lt.mp (fun u9 => lin [_, _] [] (.l 1 (.a (.v 0) (.c 1)) (.v 1) (.l 1 (.v 1) (.v 0) .n)) (by kernel_rfl) u9 (Nat.not_lt.mp h)))))), show i - (K.length - b) = i + b - K.length by exact linn [_, _, _, _, _, _] [] (.v 5) (.v 4) (.e 1 (.a (.v 2) (.v 0)) (.v 1) (.e 1 (.a (.v 4) (.v 1)) (.a (.v 3) (.v 0)) (.e (-1) (.a (.v 5) (.v 2)) (.v 3) .n))) (by kernel_rfl) (Nat.sub_add_cancel (Nat.not_lt.mp (fun u9 => lin [_, _] [] (.l 1 (.a (.v 1) (.c 1)) (.v 0) (.l 1 (.a (.v 0) (.c 1)) (.v 1) .n)) (by kernel_rfl) u9 hb))) (Nat.sub_add_cancel (Nat.not_lt.mp (fun u9 => lin [_, _, _, _] [] (.l 1 (.a (.a (.v 2) (.v 0)) (.c 1)) (.v 1) (.e 1 (.a (.v 3) (.v 1)) (.a (.v 2) (.v 0)) .n)) (by kernel_rfl) u9 (Nat.sub_add_cancel (Nat.not_lt.mp (fun u9 => lin [_, _, _, _] [] (.l 1 (.a (.a (.v 3) (.v 0)) (.c 1)) (.v 1) (.l 1 (.v 2) (.v 3) (.l 1 (.v 1) (.a (.v 2) (.v 0)) .n))) (by kernel_rfl) u9 (Nat.not_lt.mp h) (sub_g _ _))))))) (Nat.sub_add_cancel (Nat.not_lt.mp (fun u9 => lin [_, _, _, _, _] [] (.l 1 (.a (.v 3) (.c 1)) (.v 2) (.e 1 (.a (.v 2) (.v 0)) (.v 1) (.e 1 (.a (.v 4) (.v 1)) (.a (.v 3) (.v 0)) .n))) (by kernel_rfl) u9 (Nat.sub_add_cancel (Nat.not_lt.mp (fun u9 => lin [_, _] [] (.l 1 (.a (.v 1) (.c 1)) (.v 0) (.l 1 (.a (.v 0) (.c 1)) (.v 1) .n)) (by kernel_rfl) u9 hb))) (Nat.sub_add_cancel (Nat.not_lt.mp (fun u9 => lin [_, _, _, _] [] (.l 1 (.a (.a (.v 3) (.v 0)) (.c 1)) (.v 1) (.l 1 (.v 2) (.v 3) (.l 1 (.v 1) (.a (.v 2) (.v 0)) .n))) (by kernel_rfl) u9 (Nat.not_lt.mp h) (sub_g _ _)))))))]
theorem ring_ok (ns : List Int) (h1 : 4 ≤ ns.length) (h2 : ns.length ≤ 6) : LsOk (ring ns) ∧ 7 ≤ (ring ns).length ∧ (ring ns).length ≤ 10 := by
  obtain ⟨ha, ⟨q, hq⟩, hl⟩ := kinds_ok ns
  have hlen := kinds_len ns h1 h2
  have htri := kinds_tri ns
  have hb : ringAt ns < (kinds ns).length := by
    unfold ringAt
    have := Int.fmod_lt_of_pos ns.sum (show (0 : Int) < ((kinds ns).length : Int) by exact Int.not_le.mp (fun u9 => lin [_] [] (.L 1 (.z (.v 0)) (.i 0) (.l 1 (.c 7) (.v 0) .n)) (by kernel_rfl) u9 hlen.1))
    have := Int.fmod_nonneg_of_pos ns.sum (show (0 : Int) < ((kinds ns).length : Int) by exact Int.not_le.mp (fun u9 => lin [_] [] (.L 1 (.z (.v 0)) (.i 0) (.l 1 (.c 7) (.v 0) .n)) (by kernel_rfl) u9 hlen.1))
    (rename_i w0; exact Or.elim (Int.le_total 0 (ns.sum.fmod ↑(kinds ns).length)) (fun q0 => Nat.not_le.mp (fun u9 => lin [_, _] [_] (.l 1 (.v 0) (.v 1) (.L 1 (.a (.v 0) (.i 1)) (.z (.v 0)) (.E 1 (.z (.v 1)) (.v 0) .n))) (by kernel_rfl) u9 w0 (Int.toNat_of_nonneg (Int.not_lt.mp (fun u9 => lin [] [_] (.L 1 (.a (.v 0) (.i 1)) (.i 0) (.L 1 (.i 0) (.v 0) .n)) (by kernel_rfl) u9 q0))))) (fun q0 => Nat.not_le.mp (fun u9 => lin [_, _] [] (.l 1 (.v 0) (.v 1) (.l 1 (.c 7) (.v 0) (.e 1 (.v 1) (.c 0) .n))) (by kernel_rfl) u9 hlen.1 (Int.toNat_of_nonpos (Int.not_lt.mp (fun u9 => lin [] [_] (.L 1 (.a (.i 0) (.i 1)) (.v 0) (.L 1 (.v 0) (.i 0) .n)) (by kernel_rfl) u9 q0))))))
  have h0 : (kinds ns).getD 0 0 = 0 := by rw [hq]; rfl
  have hall : ∀ c, Tri c → c ∈ kinds ns := by
    intro c hc
    rw [hq]
    rcases hc with rfl | rfl | rfl <;> simp
  have cyc : ∀ i, i < (kinds ns).length → (kinds ns).getD i 0 ≠ (kinds ns).getD ((i + 1) % (kinds ns).length) 0 := by
    intro i hi
    by_cases h : i + 1 < (kinds ns).length
    · rw [Nat.mod_eq_of_lt h]; exact ha i h
    · have : i = (kinds ns).length - 1 := by exact Nat.le_antisymm (Nat.not_lt.mp (fun u9 => lin [_, _, _] [] (.l 1 (.a (.v 2) (.c 1)) (.v 1) (.l 1 (.a (.v 1) (.c 1)) (.v 0) (.e (-1) (.a (.v 2) (.c 1)) (.v 0) .n))) (by kernel_rfl) u9 hi (Nat.sub_add_cancel (Nat.not_lt.mp (fun u9 => lin [_] [] (.l 1 (.a (.v 0) (.c 1)) (.c 1) (.l 1 (.c 7) (.v 0) .n)) (by kernel_rfl) u9 hlen.1))))) (Nat.not_lt.mp (fun u9 => lin [_, _, _] [] (.l 1 (.a (.v 1) (.c 1)) (.v 2) (.l 1 (.v 0) (.a (.v 1) (.c 1)) (.e 1 (.a (.v 2) (.c 1)) (.v 0) .n))) (by kernel_rfl) u9 (Nat.not_lt.mp h) (Nat.sub_add_cancel (Nat.not_lt.mp (fun u9 => lin [_] [] (.l 1 (.a (.v 0) (.c 1)) (.c 1) (.l 1 (.c 7) (.v 0) .n)) (by kernel_rfl) u9 hlen.1)))))
      subst this
      rw [show (kinds ns).length - 1 + 1 = (kinds ns).length by exact linn [_, _] [] (.a (.v 0) (.c 1)) (.v 1) (.e (-1) (.a (.v 0) (.c 1)) (.v 1) .n) (by kernel_rfl) (Nat.sub_add_cancel (Nat.not_lt.mp (fun u9 => lin [_, _] [] (.l 1 (.a (.v 1) (.c 1)) (.c 1) (.e 1 (.a (.v 0) (.c 1)) (.v 1) .n)) (by kernel_rfl) u9 (Nat.sub_add_cancel (Nat.not_lt.mp (fun u9 => lin [_, _] [] (.l 1 (.a (.v 1) (.c 1)) (.c 1) (.l 1 (.a (.v 0) (.c 1)) (.v 1) .n)) (by kernel_rfl) u9 hi)))))), Nat.mod_self, h0]
      exact hl
  have hr : (ring ns).length = (kinds ns).length := by
    unfold ring
    rw [List.length_append, List.length_drop, List.length_take]; exact linn [_, _, _, _] [] (.a (.v 2) (.v 3)) (.v 0) (.e (-1) (.a (.v 2) (.v 1)) (.v 0) (.e (-1) (.v 3) (.v 1) .n)) (by kernel_rfl) (Nat.sub_add_cancel (Nat.not_lt.mp (fun u9 => lin [_, _] [] (.l 1 (.a (.v 0) (.c 1)) (.v 1) (.l 1 (.a (.v 1) (.c 1)) (.v 0) .n)) (by kernel_rfl) u9 hb))) (Nat.min_eq_left (Nat.not_lt.mp (fun u9 => lin [_, _] [] (.l 1 (.a (.v 0) (.c 1)) (.v 1) (.l 1 (.a (.v 1) (.c 1)) (.v 0) .n)) (by kernel_rfl) u9 hb)))
  have hg : ∀ i, i < (kinds ns).length → (ring ns).getD i 0 = (kinds ns).getD ((i + ringAt ns) % (kinds ns).length) 0 := fun i hi => rot_get _ _ _ hb hi
  have hmem : ∀ c, c ∈ kinds ns ↔ c ∈ ring ns := by
    intro c
    unfold ring
    rw [List.mem_append, Or.comm, ← List.mem_append, List.take_append_drop]
  refine ⟨⟨by exact Nat.not_lt.mp (fun u9 => lin [_, _] [] (.l 1 (.a (.v 1) (.c 1)) (.c 2) (.l 1 (.c 7) (.v 0) (.e (-1) (.v 1) (.v 0) .n))) (by kernel_rfl) u9 hlen.1 hr), fun x hx => htri x ((hmem x).mpr hx), ?_, ?_, fun _ c hc => (hmem c).mp (hall c hc)⟩, by exact Nat.not_lt.mp (fun u9 => lin [_, _] [] (.l 1 (.a (.v 1) (.c 1)) (.c 7) (.l 1 (.c 7) (.v 0) (.e (-1) (.v 1) (.v 0) .n))) (by kernel_rfl) u9 hlen.1 hr), by exact Nat.not_lt.mp (fun u9 => lin [_, _] [] (.l 1 (.a (.c 10) (.c 1)) (.v 1) (.l 1 (.v 0) (.c 10) (.e 1 (.v 1) (.v 0) .n))) (by kernel_rfl) u9 hlen.2 hr)⟩
  · intro i hi
    rw [hr] at hi
    rw [hg i (by exact Nat.not_le.mp (fun u9 => lin [_, _] [] (.l 1 (.v 1) (.v 0) (.l 1 (.a (.a (.v 0) (.c 1)) (.c 1)) (.v 1) .n)) (by kernel_rfl) u9 hi)), hg (i + 1) hi]
    have := cyc ((i + ringAt ns) % (kinds ns).length) (Nat.mod_lt _ (by exact Nat.not_le.mp (fun u9 => lin [_] [] (.l 1 (.v 0) (.c 0) (.l 1 (.c 7) (.v 0) .n)) (by kernel_rfl) u9 hlen.1)))
    rw [Nat.mod_add_mod, show i + ringAt ns + 1 = i + 1 + ringAt ns by exact linn [_, _] [] (.a (.a (.v 0) (.v 1)) (.c 1)) (.a (.a (.v 0) (.c 1)) (.v 1)) .n (by kernel_rfl)] at this
    exact this
  · rw [hr, hg 0 (by exact Nat.not_le.mp (fun u9 => lin [_] [] (.l 1 (.v 0) (.c 0) (.l 1 (.c 7) (.v 0) .n)) (by kernel_rfl) u9 hlen.1)), hg ((kinds ns).length - 1) (by exact Nat.not_le.mp (fun u9 => lin [_, _] [] (.l 1 (.v 0) (.v 1) (.e 1 (.a (.v 1) (.c 1)) (.v 0) .n)) (by kernel_rfl) u9 (Nat.sub_add_cancel (Nat.not_lt.mp (fun u9 => lin [_] [] (.l 1 (.a (.v 0) (.c 1)) (.c 1) (.l 1 (.c 7) (.v 0) .n)) (by kernel_rfl) u9 hlen.1)))))]
    have := cyc (((kinds ns).length - 1 + ringAt ns) % (kinds ns).length) (Nat.mod_lt _ (by exact Nat.not_le.mp (fun u9 => lin [_] [] (.l 1 (.v 0) (.c 0) (.l 1 (.c 7) (.v 0) .n)) (by kernel_rfl) u9 hlen.1)))
    rw [Nat.mod_add_mod, show (kinds ns).length - 1 + ringAt ns + 1 = 0 + ringAt ns + (kinds ns).length by exact linn [_, _, _] [] (.a (.a (.v 1) (.v 2)) (.c 1)) (.a (.a (.c 0) (.v 2)) (.v 0)) (.e (-1) (.a (.v 1) (.c 1)) (.v 0) .n) (by kernel_rfl) (Nat.sub_add_cancel (Nat.not_lt.mp (fun u9 => lin [_] [] (.l 1 (.a (.v 0) (.c 1)) (.c 1) (.l 1 (.c 7) (.v 0) .n)) (by kernel_rfl) u9 hlen.1))), Nat.add_mod_right] at this
    exact this.symm
end
section
/-- what the cuts keep -/
structure LineJ (rg : List Int) (bs : List Blk) : Prop where
  inv : BInv (rg.getD 0 0) bs
  flat : rg.getD 0 0 :: bs.flatMap (·.kds) = rg
  pcs : (bs.flatMap (·.pcs)).length + 2 * bs.length = 3 * (rg.length - 1)
  dep : (deepOf bs).length = rg.length - 1
theorem deep_len_cut : ∀ (bs : List Blk) (i : Nat), (deepOf (cutB bs i)).length = (deepOf bs).length
  | a :: b :: r, 0 => by
    show ((a.deps ++ b.deps).map (· + 1) ++ deepOf r).length = (a.deps ++ (b.deps ++ deepOf r)).length
    simp only [List.length_append, List.length_map]; exact linn [_, _, _] [] (.a (.a (.v 0) (.v 1)) (.v 2)) (.a (.v 0) (.a (.v 1) (.v 2))) .n (by kernel_rfl)
  | a :: r, i + 1 => by
    show (a.deps ++ deepOf (cutB r i)).length = (a.deps ++ deepOf r).length
    rw [List.length_append, deep_len_cut r i, List.length_append]
  | [], 0 => rfl
  | [], _ + 1 => rfl
  | [a], 0 => rfl
theorem flat_range (f : Nat → Blk) (g : Nat → Int) (h : ∀ k, (f k).kds = [g k]) : ∀ n, ((List.range n).map f).flatMap (·.kds) = (List.range n).map g
  | 0 => rfl
  | n + 1 => by rw [List.range_succ, List.map_append, List.flatMap_append, flat_range f g h n, List.map_append]; show _ ++ ((f n).kds ++ []) = _; rw [h]; rfl
theorem pcs_range (f : Nat → Blk) (h : ∀ k, (f k).pcs.length = 1) : ∀ n, (((List.range n).map f).flatMap (·.pcs)).length = n
  | 0 => rfl
  | n + 1 => by rw [List.range_succ, List.map_append, List.flatMap_append, List.length_append, pcs_range f h n]; show _ + ((f n).pcs ++ []).length = _; rw [List.append_nil, h]
theorem LineJ.start {rg : List Int} (ns : List Int) (h : LsOk rg) : LineJ rg (bs0 ns rg) := by
  have h2 := h.two
  have hne : rg ≠ [] := by intro e; rw [e] at h2; simp at h2
  have hl : (bs0 ns rg).length = rg.length - 1 := by simp [bs0]
  refine ⟨inv0 h, ?_, ?_, ?_⟩
  · have e := ls0 ns rg hne
    have e2 : (bs0 ns rg).flatMap (·.kds) = (bs0 ns rg).map endK := by
      unfold bs0
      rw [flat_range _ (fun k => rg.getD (k + 1) 0) fun _ => rfl, List.map_map]
      rfl
    rw [e2]
    exact e
  · rw [hl]
    unfold bs0
    rw [pcs_range _ fun _ => rfl]
    exact linn [_] [] (.a (.v 0) (.m 2 (.v 0))) (.m 3 (.v 0)) .n (by kernel_rfl)
  · rw [deep0]; simp
theorem LineJ.cut {rg : List Int} {bs : List Blk} (h : LineJ rg bs) {k : Nat} (hk : 1 ≤ k) (hk2 : k < bs.length) (hf : isFree (lsOf (rg.getD 0 0) bs) k = true) : LineJ rg (cutB bs (k - 1)) := by
  refine ⟨inv_cut h.inv hk hk2 hf, ?_, ?_, ?_⟩
  · rw [flat_cut]; exact h.flat
  · have e1 := pcs_cut bs (k - 1) (by exact Nat.not_le.mp (fun u9 => lin [_, _, _] [] (.l 1 (.v 1) (.a (.v 2) (.c 1)) (.l 1 (.a (.v 0) (.c 1)) (.v 1) (.e 1 (.a (.v 2) (.c 1)) (.v 0) .n))) (by kernel_rfl) u9 hk2 (Nat.sub_add_cancel (Nat.not_lt.mp (fun u9 => lin [_] [] (.l 1 (.a (.v 0) (.c 1)) (.c 1) (.l 1 (.c 1) (.v 0) .n)) (by kernel_rfl) u9 hk)))))
    have e2 := cutB_len bs (k - 1) (by exact Nat.not_le.mp (fun u9 => lin [_, _, _] [] (.l 1 (.v 1) (.a (.v 2) (.c 1)) (.l 1 (.a (.v 0) (.c 1)) (.v 1) (.e 1 (.a (.v 2) (.c 1)) (.v 0) .n))) (by kernel_rfl) u9 hk2 (Nat.sub_add_cancel (Nat.not_lt.mp (fun u9 => lin [_] [] (.l 1 (.a (.v 0) (.c 1)) (.c 1) (.l 1 (.c 1) (.v 0) .n)) (by kernel_rfl) u9 hk)))))
    have e3 := h.pcs
    exact linn [_, _, _, _, _] [] (.a (.v 0) (.m 2 (.v 2))) (.m 3 (.v 4)) (.e (-1) (.v 0) (.a (.v 1) (.c 2)) (.e (-2) (.a (.v 2) (.c 1)) (.v 3) (.e (-1) (.a (.v 1) (.m 2 (.v 3))) (.m 3 (.v 4)) .n))) (by kernel_rfl) e1 e2 e3
  · rw [deep_len_cut]; exact h.dep
theorem pcs_le : ∀ (bs : List Blk) (b : Blk), b ∈ bs → b.pcs.length ≤ (bs.flatMap (·.pcs)).length
  | [], b, h => nomatch h
  | c :: r, b, h => by
    rw [List.flatMap_cons, List.length_append]
    rcases List.mem_cons.mp h with rfl | h
    · exact Nat.not_lt.mp (fun u9 => lin [_, _] [] (.l 1 (.a (.a (.v 0) (.v 1)) (.c 1)) (.v 0) .n) (by kernel_rfl) u9)
    · have := pcs_le r b h; exact Nat.not_lt.mp (fun u9 => lin [_, _, _] [] (.l 1 (.a (.a (.v 2) (.v 1)) (.c 1)) (.v 0) (.l 1 (.v 0) (.v 1) .n)) (by kernel_rfl) u9 this)
theorem dep_le : ∀ (bs : List Blk) (b : Blk), b ∈ bs → b.deps.length ≤ (deepOf bs).length
  | [], b, h => nomatch h
  | c :: r, b, h => by
    show _ ≤ (c.deps ++ deepOf r).length
    rw [List.length_append]
    rcases List.mem_cons.mp h with rfl | h
    · exact Nat.not_lt.mp (fun u9 => lin [_, _] [] (.l 1 (.a (.a (.v 0) (.v 1)) (.c 1)) (.v 0) .n) (by kernel_rfl) u9)
    · have := dep_le r b h; exact Nat.not_lt.mp (fun u9 => lin [_, _, _] [] (.l 1 (.a (.a (.v 2) (.v 1)) (.c 1)) (.v 0) (.l 1 (.v 0) (.v 1) .n)) (by kernel_rfl) u9 this)
theorem span_in : ∀ (bs : List Blk) (s i : Nat) (p : Nat × Nat), (spans s bs)[i]? = some p → s ≤ p.1 ∧ p.1 + p.2 ≤ s + (deepOf bs).length
  | [], _, _, _, h => by cases h
  | b :: r, s, 0, p, h => by
    cases h
    show s ≤ s ∧ s + b.deps.length ≤ s + (b.deps ++ deepOf r).length
    rw [List.length_append]; exact ⟨Nat.not_lt.mp (fun u9 => lin [_] [] (.l 1 (.a (.v 0) (.c 1)) (.v 0) .n) (by kernel_rfl) u9), Nat.not_lt.mp (fun u9 => lin [_, _, _] [] (.l 1 (.a (.a (.v 0) (.a (.v 1) (.v 2))) (.c 1)) (.a (.v 0) (.v 1)) .n) (by kernel_rfl) u9)⟩
  | b :: r, s, i + 1, p, h => by
    have := span_in r (s + b.deps.length) i p h
    show s ≤ p.1 ∧ p.1 + p.2 ≤ s + (b.deps ++ deepOf r).length
    rw [List.length_append]; exact ⟨Nat.not_lt.mp (fun u9 => lin [_, _, _] [] (.l 1 (.a (.v 2) (.c 1)) (.v 0) (.l 1 (.a (.v 0) (.v 1)) (.v 2) .n)) (by kernel_rfl) u9 this.1), Nat.not_lt.mp (fun u9 => lin [_, _, _, _, _] [] (.l 1 (.a (.a (.v 0) (.a (.v 1) (.v 4))) (.c 1)) (.a (.v 2) (.v 3)) (.l 1 (.a (.v 2) (.v 3)) (.a (.a (.v 0) (.v 1)) (.v 4)) .n)) (by kernel_rfl) u9 this.2)⟩
theorem span_next : ∀ (bs : List Blk) (s i : Nat) (p q : Nat × Nat), (spans s bs)[i]? = some p → (spans s bs)[i + 1]? = some q → q.1 = p.1 + p.2
  | [], _, _, _, _, h, _ => by cases h
  | [b], _, 0, _, _, _, h => by cases h
  | b :: c :: r, s, 0, p, q, h, k => by cases h; cases k; rfl
  | b :: r, s, i + 1, p, q, h, k => span_next r _ i p q h k
theorem ints_set {vs : List Value} {ns : List Int} (h : IntsAre vs ns) (k : Int) (t : Tok) : ∀ i, IntsAre (vs.set i (.int k t)) (ns.set i k) := by
  induction h with
  | nil => intro i; exact .nil
  | cons x u _ ih =>
    intro i
    cases i with
    | zero => exact .cons _ _ ‹_›
    | succ i => exact .cons _ _ (ih i)
theorem bump_len (l : List Int) (s n : Nat) (h : s + n ≤ l.length) : (bump l s n).length = l.length := by
  unfold bump
  simp only [List.length_append, List.length_take, List.length_map, List.length_drop]
  exact linn [_, _, _, _, _, _] [] (.a (.a (.v 3) (.v 4)) (.v 5)) (.v 2) (.e (-1) (.v 3) (.v 0) (.e (-1) (.v 4) (.v 1) (.e (-1) (.a (.v 5) (.a (.v 0) (.v 1))) (.v 2) .n))) (by kernel_rfl) (Nat.min_eq_left (Nat.not_lt.mp (fun u9 => lin [_, _, _] [] (.l 1 (.a (.v 2) (.c 1)) (.v 0) (.l 1 (.a (.v 0) (.v 1)) (.v 2) .n)) (by kernel_rfl) u9 h))) (Nat.min_eq_left (Nat.not_lt.mp (fun u9 => lin [_, _, _, _] [] (.l 1 (.a (.v 3) (.c 1)) (.v 1) (.l 1 (.a (.v 0) (.v 1)) (.v 2) (.e (-1) (.a (.v 3) (.v 0)) (.v 2) .n))) (by kernel_rfl) u9 h (Nat.sub_add_cancel (Nat.not_lt.mp (fun u9 => lin [_, _, _] [] (.l 1 (.a (.v 2) (.c 1)) (.v 0) (.l 1 (.a (.v 0) (.v 1)) (.v 2) .n)) (by kernel_rfl) u9 h)))))) (Nat.sub_add_cancel (Nat.not_lt.mp (fun u9 => lin [_, _, _] [] (.l 1 (.a (.v 2) (.c 1)) (.a (.v 0) (.v 1)) (.l 1 (.a (.v 0) (.v 1)) (.v 2) .n)) (by kernel_rfl) u9 h)))
theorem bump_zero (l : List Int) (s : Nat) : bump l s 0 = l := by
  unfold bump
  simp
theorem bump_succ (l : List Int) (s n : Nat) (h : s + n < l.length) : (bump l s n).set (s + n) ((bump l s n).getD (s + n) 0 + 1) = bump l s (n + 1) := by
  have e1 : (l.take s ++ ((l.drop s).take n).map (· + 1)).length = s + n := by
    simp only [List.length_append, List.length_take, List.length_map, List.length_drop]; exact linn [_, _, _, _] [] (.a (.v 2) (.v 3)) (.a (.v 0) (.v 1)) (.e (-1) (.v 2) (.v 0) (.e (-1) (.v 3) (.v 1) .n)) (by kernel_rfl) (Nat.min_eq_left (Nat.not_lt.mp (fun u9 => lin [_, _, _] [] (.l 1 (.a (.v 2) (.c 1)) (.v 0) (.l 1 (.a (.a (.v 0) (.v 1)) (.c 1)) (.v 2) .n)) (by kernel_rfl) u9 h))) (Nat.min_eq_left (Nat.not_lt.mp (fun u9 => lin [_, _, _, _] [] (.l 1 (.a (.v 3) (.c 1)) (.v 1) (.l 1 (.a (.a (.v 0) (.v 1)) (.c 1)) (.v 2) (.e (-1) (.a (.v 3) (.v 0)) (.v 2) .n))) (by kernel_rfl) u9 h (Nat.sub_add_cancel (Nat.not_lt.mp (fun u9 => lin [_, _, _] [] (.l 1 (.a (.v 2) (.c 1)) (.v 0) (.l 1 (.a (.a (.v 0) (.v 1)) (.c 1)) (.v 2) .n)) (by kernel_rfl) u9 h))))))
  have e2 : l.drop (s + n) = l[s + n] :: l.drop (s + n + 1) := List.drop_eq_getElem_cons h
  have e3 : (l.drop s).take (n + 1) = (l.drop s).take n ++ [l[s + n]] := by
    rw [List.take_add_one, List.getElem?_drop, List.getElem?_eq_getElem h]; rfl
  unfold bump
  rw [e2, e3, List.map_append, List.set_append_right _ _ (by exact Nat.not_lt.mp (fun u9 => lin [_, _, _] [] (.l 1 (.a (.a (.v 1) (.v 2)) (.c 1)) (.v 0) (.e 1 (.v 0) (.a (.v 1) (.v 2)) .n)) (by kernel_rfl) u9 e1)), e1, Nat.sub_self, List.getD_eq_getElem?_getD, List.getElem?_append_right (by exact Nat.not_lt.mp (fun u9 => lin [_, _, _] [] (.l 1 (.a (.a (.v 1) (.v 2)) (.c 1)) (.v 0) (.e 1 (.v 0) (.a (.v 1) (.v 2)) .n)) (by kernel_rfl) u9 e1)), e1, Nat.sub_self]
  simp only [List.set_cons_zero, List.getElem?_cons_zero, Option.getD_some, List.map_cons, List.map_nil, List.append_assoc, List.cons_append, List.nil_append, Nat.add_assoc]
theorem range_two (a n b : Nat) : (List.range' a n).map (fun n : Nat => (n : Int)) ++ (List.range' (a + n) b).map (fun n : Nat => (n : Int)) = (List.range' a (n + b)).map fun n : Nat => (n : Int) := by
  rw [← List.map_append, ← List.range'_append_1]
theorem range_at {a n i : Nat} {x : Int} (h : ((List.range' a n).map fun n : Nat => (n : Int))[i]? = some x) : i < n ∧ x = ((a + i : Nat) : Int) := by
  rw [List.getElem?_map] at h
  obtain ⟨y, hy, rfl⟩ := Option.map_eq_some_iff.mp h
  have hi : i < n := by have := (List.getElem?_eq_some_iff.mp hy).1; simpa using this
  rw [List.getElem?_range' hi] at hy
  refine ⟨hi, ?_⟩
  have := Option.some.inj hy
  lia
/-- a function's answer: the line and the depths -/
noncomputable abbrev RetLine (rg : List Int) (r : Value) (own : Led) : Prop :=
  ∃ D SA DD vs dv n1 n2 n3 b, r = .ref D ∧ own = [(D, oTup #[.ref SA, .ref DD] n1), (SA, oLst vs n2), (DD, oLst dv n3)] ∧ PcsAre vs b.pcs ∧ IntsAre dv b.deps ∧ LineJ rg [b]
end
section
theorem depths_len : ∀ (p : List Pce) (d : Int), (depthsOf d p).length ≤ p.length
  | [], _ => Nat.le_refl _
  | .op :: r, d => Nat.le_succ_of_le (depths_len r (d + 1))
  | .cl :: r, d => Nat.le_succ_of_le (depths_len r (d - 1))
  | .lab i :: r, d => Nat.succ_le_succ (depths_len r d)
theorem walk_len : ∀ (ds : List Int) (x δ : Int), (walkK x δ ds).length = ds.length
  | [], _, _ => rfl
  | d :: r, x, δ => by show (walkK _ δ r).length + 1 = r.length + 1; rw [walk_len r]
theorem lab_len (i : Fin 6) : (labB i).length ≤ 5 := by
  match i with
  | 0 => decide
  | 1 => decide
  | 2 => decide
  | 3 => decide
  | 4 => decide
  | 5 => decide
theorem pB_len (p : Pce) : (pB p).length ≤ 5 := by
  cases p with
  | op => decide
  | cl => decide
  | lab i => exact lab_len i
theorem bB_len : ∀ qs : List Pce, (bB qs).length ≤ 5 * qs.length
  | [] => Nat.le_refl _
  | p :: r => by
    have e : bB (p :: r) = pB p ++ bB r := rfl
    have := pB_len p
    have := bB_len r
    rw [e, List.length_append, List.length_cons]; (rename_i w0; exact Nat.not_lt.mp (fun u9 => lin [_, _, _] [] (.l 1 (.a (.m 5 (.a (.v 2) (.c 1))) (.c 1)) (.a (.v 0) (.v 1)) (.l 1 (.v 0) (.c 5) (.l 1 (.v 1) (.m 5 (.v 2)) .n))) (by kernel_rfl) u9 w0 this))
theorem bB_snoc (qs : List Pce) (p : Pce) : (bB (qs ++ [p])).toArray = (bB qs).toArray ++ (pB p).toArray := by
  rw [bB_app]
  show (bB qs ++ (pB p ++ [])).toArray = _
  simp
theorem take_snoc {ps : List Pce} {i : Nat} {p : Pce} (h : ps[i]? = some p) : ps.take (i + 1) = ps.take i ++ [p] := by rw [List.take_add_one, h]; rfl
theorem depths_lab (q : List Pce) (i : Fin 6) : depthsOf 0 (q ++ [.lab i]) = depthsOf 0 q ++ [net q] := by
  rw [depthsOf_app, Int.zero_add]; rfl
theorem depths_op (q : List Pce) : depthsOf 0 (q ++ [.op]) = depthsOf 0 q := by rw [depthsOf_app]; show _ ++ [] = _; rw [List.append_nil]
theorem depths_cl (q : List Pce) : depthsOf 0 (q ++ [.cl]) = depthsOf 0 q := by rw [depthsOf_app]; show _ ++ [] = _; rw [List.append_nil]
theorem net_op (q : List Pce) : net (q ++ [.op]) = net q + 1 := by rw [net_app]; rfl
theorem net_cl (q : List Pce) : net (q ++ [.cl]) = net q - 1 := by rw [net_app]; show _ + (0 - 1) = _; exact linz [] [_] (.a (.v 0) (.i (0 - 1))) (.s (.v 0) (.i 1)) .n (by kernel_rfl)
theorem net_lab (q : List Pce) (i : Fin 6) : net (q ++ [.lab i]) = net q := by rw [net_app]; show _ + 0 = _; exact linz [] [_] (.a (.v 0) (.i 0)) (.v 0) .n (by kernel_rfl)
theorem last_walk {kl : List Int} {kL x δ : Int} {ds : List Int} (h : kl ++ [kL] = x :: walkK x δ ds) (d : Int) : kl ++ [kL] ++ [stepK kL δ d] = x :: walkK x δ (ds ++ [d]) := by
  have hl : (walkK x δ ds).getLastD x = kL := by
    have e : (kl ++ [kL]).getLastD 0 = (x :: walkK x δ ds).getLastD 0 := by rw [h]
    rw [List.getLastD_cons] at e
    rw [← e, List.getLastD_eq_getLast?, List.getLast?_append]
    rfl
  rw [walkK_app, hl, h]
  rfl
theorem xor_step {k0 k1 k d : Int} (h0 : Tri k0) (h1 : Tri k1) (hn : k0 ≠ k1) :
    (1 + Builtin.bitXor (Int.fmod (k1 - k0) 3 - 1) (Int.fmod d 2) = 1 ∨ 1 + Builtin.bitXor (Int.fmod (k1 - k0) 3 - 1) (Int.fmod d 2) = 2) ∧ Int.fmod (k + (1 + Builtin.bitXor (Int.fmod (k1 - k0) 3 - 1) (Int.fmod d 2))) 3 = stepK k (k1 - k0) d := by
  have hd : Int.fmod d 2 = 0 ∨ Int.fmod d 2 = 1 := by rw [Int.fmod_eq_emod_of_nonneg _ (by decide)]; lia
  have ht : Int.fmod (k1 - k0) 3 = 1 ∨ Int.fmod (k1 - k0) 3 = 2 := by
    rw [Int.fmod_eq_emod_of_nonneg _ (by decide)]; unfold Tri at *; lia
  have x00 : Builtin.bitXor (1 - 1) 0 = 0 := by decide +kernel
  have x01 : Builtin.bitXor (1 - 1) 1 = 1 := by decide +kernel
  have x10 : Builtin.bitXor (2 - 1) 0 = 1 := by decide +kernel
  have x11 : Builtin.bitXor (2 - 1) 1 = 0 := by decide +kernel
  have e3 : ∀ a : Int, Int.fmod a 3 = a % 3 := fun a => Int.fmod_eq_emod_of_nonneg _ (by decide)
  unfold stepK
  rcases ht with ht | ht <;> rcases hd with hd | hd <;> rw [ht, hd]
  · rw [x00, if_pos rfl]
    rw [e3] at ht
    exact ⟨by exact Or.inl (linz [] [] (.i (1 + 0)) (.i 1) .n (by kernel_rfl)), by rw [e3, e3]; lia⟩
  · rw [x01, if_neg (by decide)]
    rw [e3] at ht
    exact ⟨by exact Or.inr (linz [] [] (.i (1 + 1)) (.i 2) .n (by kernel_rfl)), by rw [e3, e3]; lia⟩
  · rw [x10, if_pos rfl]
    rw [e3] at ht
    exact ⟨by exact Or.inr (linz [] [] (.i (1 + 1)) (.i 2) .n (by kernel_rfl)), by rw [e3, e3]; lia⟩
  · rw [x11, if_neg (by decide)]
    rw [e3] at ht
    exact ⟨by exact Or.inl (linz [] [] (.i (1 + 0)) (.i 1) .n (by kernel_rfl)), by rw [e3, e3]; lia⟩
theorem paired_at1 {α β : Type} {F : α → β → Prop} {l₁ : List α} {l₂ : List β} (p : Paired F l₁ l₂) : ∀ {i : Nat} {a : α}, l₁[i]? = some a → ∃ b, l₂[i]? = some b ∧ F a b := by
  induction p with
  | nil => intro i a h; cases h
  | cons x _ ih =>
    intro i a h
    cases i with
    | zero => cases h; exact ⟨_, rfl, x⟩
    | succ i => exact ih h
theorem paired_snoc {α β : Type} {F : α → β → Prop} {l₁ : List α} {l₂ : List β} {x : α} {y : β} (p : Paired F (l₁ ++ [x]) (l₂ ++ [y])) : F x y := by
  have hl := paired_len p
  simp only [List.length_append, List.length_cons, List.length_nil] at hl
  obtain ⟨b, hb, hF⟩ := paired_at1 p (i := l₁.length) (a := x) (by simp)
  rw [show l₁.length = l₂.length by exact linn [_, _] [] (.v 0) (.v 1) (.e (-1) (.a (.v 0) (.c (0 + 1))) (.a (.v 1) (.c (0 + 1))) .n) (by kernel_rfl) hl] at hb
  have : b = y := by simpa using hb.symm
  rw [← this]; exact hF
theorem stepK_tri (x δ d : Int) : Tri (stepK x δ d) := by
  unfold stepK Tri
  rw [Int.fmod_eq_emod_of_nonneg _ (by decide)]
  lia
end
section
open PySem.Float64
theorem grid {q : Nat} (hq : q < 2 ^ 53) : ∃ t, V t = q * 2 ^ 1024 := by
  by_cases h0 : q = 0
  · exact ⟨0, by rw [V_zero, h0, Nat.zero_mul]⟩
  · have h1 := Nat.log2_self_le h0
    have h2 := @Nat.lt_log2_self q
    have h3 : q.log2 < 53 := (Nat.log2_lt h0).mpr hq
    refine ⟨(1024 - (52 - q.log2)) * 2 ^ 52 + q * 2 ^ (52 - q.log2), ?_⟩
    have a1 : q * 2 ^ (52 - q.log2) ≤ 2 ^ 53 := by
      have : q * 2 ^ (52 - q.log2) ≤ 2 ^ (q.log2 + 1) * 2 ^ (52 - q.log2) := Nat.mul_le_mul_right _ (Nat.le_of_lt h2)
      rw [← Nat.pow_add, show q.log2 + 1 + (52 - q.log2) = 53 by exact linn [_, _] [] (.a (.a (.v 0) (.c 1)) (.v 1)) (.c 53) (.e (-1) (.a (.v 1) (.v 0)) (.c 52) .n) (by kernel_rfl) (Nat.sub_add_cancel (Nat.not_lt.mp (fun u9 => lin [_] [] (.l 1 (.a (.c 52) (.c 1)) (.v 0) (.l 1 (.a (.v 0) (.c 1)) (.c 53) .n)) (by kernel_rfl) u9 h3)))] at this
      exact this
    have a2 : 2 ^ 52 ≤ q * 2 ^ (52 - q.log2) := by
      have : 2 ^ q.log2 * 2 ^ (52 - q.log2) ≤ q * 2 ^ (52 - q.log2) := Nat.mul_le_mul_right _ h1
      rw [← Nat.pow_add, show q.log2 + (52 - q.log2) = 52 by exact linn [_, _] [] (.a (.v 0) (.v 1)) (.c 52) (.e (-1) (.a (.v 1) (.v 0)) (.c 52) .n) (by kernel_rfl) (Nat.sub_add_cancel (Nat.not_lt.mp (fun u9 => lin [_] [] (.l 1 (.a (.c 52) (.c 1)) (.v 0) (.l 1 (.a (.v 0) (.c 1)) (.c 53) .n)) (by kernel_rfl) u9 h3)))] at this
      exact this
    rw [V_at a1 (.inl a2), Nat.mul_assoc, ← Nat.pow_add]
    congr 2
    exact linn [_, _] [] (.a (.v 0) (.v 1)) (.c 1024) (.e (-1) (.a (.v 1) (.v 0)) (.c 1024) .n) (by kernel_rfl) (Nat.sub_add_cancel (Nat.not_lt.mp (fun u9 => lin [_] [] (.l 1 (.a (.c 1024) (.c 1)) (.v 0) (.l 1 (.v 0) (.c 52) .n)) (by kernel_rfl) u9 (Nat.sub_le _ _))))
theorem dst_ok {W X Y : Nat} (hml : W % Y < Y) (hdm : X + W % Y = W) : dist W X ≤ Y := by
  unfold dist
  exact Nat.not_lt.mp (fun u9 => lin [_, _, _, _, _, _] [] (.l 1 (.a (.v 1) (.c 1)) (.a (.v 4) (.v 5)) (.l 1 (.a (.v 0) (.c 1)) (.v 1) (.e (-1) (.a (.v 2) (.v 0)) (.v 3) (.e 1 (.a (.v 4) (.v 2)) (.v 3) (.e 1 (.v 5) (.c 0) .n))))) (by kernel_rfl) u9 hml hdm (Nat.sub_add_cancel (Nat.not_lt.mp (fun u9 => lin [_, _, _] [] (.l 1 (.a (.v 2) (.c 1)) (.v 1) (.e 1 (.a (.v 1) (.v 0)) (.v 2) .n)) (by kernel_rfl) u9 hdm))) (Nat.sub_eq_zero_of_le (Nat.not_lt.mp (fun u9 => lin [_, _, _] [] (.l 1 (.a (.v 2) (.c 1)) (.v 1) (.e 1 (.a (.v 1) (.v 0)) (.v 2) .n)) (by kernel_rfl) u9 hdm))))
theorem near {r : UInt64} {neg : Bool} {W D : Nat} (h : Right r neg W D) (hD : 0 < D) (hW : W < D * 2 ^ 1077) :
    (∃ m e, decode r = .fin neg m e) ∧ dist W (D * (val r).natAbs) ≤ D * 2 ^ 1024 ∧ val r = sgn neg (val r).natAbs := by
  obtain ⟨t, rfl, hle, hov, hn⟩ := h
  have hlt : t < infMag := by
    rcases Nat.lt_or_ge t infMag with h | h
    · exact h
    · exfalso
      have := hov.mp (Nat.le_antisymm hle h)
      have h2 : D * 2 ^ 1078 ≤ D * ((2 ^ 54 - 1) * 2 ^ 2045) := Nat.mul_le_mul_left _ (by decide +kernel)
      have h3 : D * 2 ^ 1078 = 2 * (D * 2 ^ 1077) := by rw [show (2 : Nat) ^ 1078 = 2 * 2 ^ 1077 from by decide +kernel]; ac_rfl
      generalize D * ((2 ^ 54 - 1) * 2 ^ 2045) = X at *
      generalize D * 2 ^ 1078 = Y at *
      generalize D * 2 ^ 1077 = Z at *
      exact lin [_, _, _, _] [] (.l 1 (.v 0) (.m 2 (.v 1)) (.l 1 (.v 2) (.v 0) (.l 2 (.a (.v 1) (.c 1)) (.v 3) (.e (-1) (.v 2) (.m 2 (.v 3)) .n)))) (by kernel_rfl) this h2 hW h3
  obtain ⟨m, e, h1, h2⟩ := decode_pack neg hlt
  have hv := val_pack neg hlt
  have ha : (val (pack neg t)).natAbs = V t := by rw [hv, sgn_natAbs]
  refine ⟨⟨m, e, h1⟩, ?_, by rw [ha]; exact hv⟩
  rw [ha]
  have hq : W / (D * 2 ^ 1024) < 2 ^ 53 := by
    rw [Nat.div_lt_iff_lt_mul (Nat.mul_pos hD (Nat.two_pow_pos _))]
    rw [show (2 : Nat) ^ 53 * (D * 2 ^ 1024) = D * 2 ^ 1077 by rw [show (2 : Nat) ^ 1077 = 2 ^ 53 * 2 ^ 1024 from by decide +kernel]; ac_rfl]
    exact hW
  obtain ⟨t', ht⟩ := grid hq
  refine Nat.le_trans (hn hlt t').1 ?_
  rw [ht]
  have hdm := Nat.div_add_mod W (D * 2 ^ 1024)
  have hml := Nat.mod_lt W (Nat.mul_pos hD (Nat.two_pow_pos 1024))
  have e1 : D * (W / (D * 2 ^ 1024) * 2 ^ 1024) = D * 2 ^ 1024 * (W / (D * 2 ^ 1024)) := by ac_rfl
  rw [e1]
  exact dst_ok hml hdm
end
section
open PySem.Float64
noncomputable def Fn (x : UInt64) : Prop := ∃ a m e, decode x = .fin a m e
theorem dist_le {a b k : Nat} (h : dist a b ≤ k) : (a : Int) - b ≤ k ∧ (b : Int) - a ≤ k := by unfold dist at h; exact ⟨Int.not_lt.mp (fun u9 => lin [_, _, _, _, _] [] (.L 1 (.a (.z (.v 2)) (.i 1)) (.s (.z (.v 3)) (.z (.v 4))) (.l 1 (.a (.v 0) (.v 1)) (.v 2) (.l 1 (.v 3) (.a (.v 0) (.v 4)) .n))) (by kernel_rfl) u9 h (sub_g _ _)), Int.not_lt.mp (fun u9 => lin [_, _, _, _, _] [] (.L 1 (.a (.z (.v 2)) (.i 1)) (.s (.z (.v 3)) (.z (.v 4))) (.l 1 (.a (.v 0) (.v 1)) (.v 2) (.l 1 (.v 3) (.a (.v 1) (.v 4)) .n))) (by kernel_rfl) u9 h (sub_g _ _))⟩
theorem zero_fn (b : Bool) : Fn (zero b) := by
  obtain ⟨m, e, h, _⟩ := decode_pack b (t := 0) (by decide)
  have : zero b = pack b 0 := by cases b <;> decide +kernel
  exact ⟨_, m, e, this ▸ h⟩
theorem sgn_near {r : UInt64} {z : Int} (hr : Right r (decide (z < 0)) z.natAbs 1) (h : z.natAbs < 2 ^ 1077) :
    Fn r ∧ val r - z ≤ ((2 ^ 1024 : Nat) : Int) ∧ z - val r ≤ ((2 ^ 1024 : Nat) : Int) := by
  obtain ⟨⟨m', e', hd⟩, hn, hv⟩ := near hr (by decide) (by rw [Nat.one_mul]; exact h)
  rw [Nat.one_mul, Nat.one_mul] at hn
  have hn' := dist_le hn
  refine ⟨⟨_, m', e', hd⟩, ?_⟩
  generalize ((2 ^ 1024 : Nat) : Int) = E at *
  rw [hv]
  unfold sgn
  by_cases hneg : z < 0
  · rw [decide_eq_true hneg]
    simp only [if_true]
    exact ⟨Int.not_lt.mp (fun u9 => lin [_, _] [_, _] (.L 1 (.a (.v 0) (.i 1)) (.s (.g (.z (.v 1))) (.v 1)) (.L 1 (.s (.z (.v 0)) (.z (.v 1))) (.v 0) (.E (-1) (.z (.v 0)) (.g (.v 1)) .n))) (by kernel_rfl) u9 hn'.1 (Int.ofNat_natAbs_of_nonpos (Int.not_lt.mp (fun u9 => lin [] [_] (.L 1 (.a (.i 0) (.i 1)) (.v 0) (.L 1 (.a (.v 0) (.i 1)) (.i 0) .n)) (by kernel_rfl) u9 hneg)))), Int.not_lt.mp (fun u9 => lin [_, _] [_, _] (.L 1 (.a (.v 0) (.i 1)) (.s (.v 1) (.g (.z (.v 1)))) (.L 1 (.s (.z (.v 1)) (.z (.v 0))) (.v 0) (.E 1 (.z (.v 0)) (.g (.v 1)) .n))) (by kernel_rfl) u9 hn'.2 (Int.ofNat_natAbs_of_nonpos (Int.not_lt.mp (fun u9 => lin [] [_] (.L 1 (.a (.i 0) (.i 1)) (.v 0) (.L 1 (.a (.v 0) (.i 1)) (.i 0) .n)) (by kernel_rfl) u9 hneg))))⟩
  · rw [decide_eq_false hneg]
    simp only [Bool.false_eq_true, if_false]
    exact ⟨Int.not_lt.mp (fun u9 => lin [_, _] [_, _] (.L 1 (.a (.v 0) (.i 1)) (.s (.z (.v 1)) (.v 1)) (.L 1 (.s (.z (.v 1)) (.z (.v 0))) (.v 0) (.E 1 (.z (.v 0)) (.v 1) .n))) (by kernel_rfl) u9 hn'.2 (Int.natAbs_of_nonneg (Int.not_lt.mp (fun u9 => lin [_] [_] (.L 1 (.a (.v 0) (.i 1)) (.i 0) (.E 1 (.z (.v 0)) (.v 0) .n)) (by kernel_rfl) u9 (Int.natAbs_of_nonneg (Int.not_lt.mp (fun u9 => lin [] [_] (.L 1 (.a (.v 0) (.i 1)) (.i 0) (.L 1 (.i 0) (.v 0) .n)) (by kernel_rfl) u9 (Int.not_lt.mp hneg)))))))), Int.not_lt.mp (fun u9 => lin [_, _] [_, _] (.L 1 (.a (.v 0) (.i 1)) (.s (.v 1) (.z (.v 1))) (.L 1 (.s (.z (.v 0)) (.z (.v 1))) (.v 0) (.E (-1) (.z (.v 0)) (.v 1) .n))) (by kernel_rfl) u9 hn'.1 (Int.natAbs_of_nonneg (Int.not_lt.mp (fun u9 => lin [_] [_] (.L 1 (.a (.v 0) (.i 1)) (.i 0) (.E 1 (.z (.v 0)) (.v 0) .n)) (by kernel_rfl) u9 (Int.natAbs_of_nonneg (Int.not_lt.mp (fun u9 => lin [] [_] (.L 1 (.a (.v 0) (.i 1)) (.i 0) (.L 1 (.i 0) (.v 0) .n)) (by kernel_rfl) u9 (Int.not_lt.mp hneg))))))))⟩
theorem add_near {x y : UInt64} (hx : Fn x) (hy : Fn y) (h : (val x + val y).natAbs < 2 ^ 1077) :
    Fn (add x y) ∧ val (add x y) - (val x + val y) ≤ ((2 ^ 1024 : Nat) : Int) ∧ (val x + val y) - val (add x y) ≤ ((2 ^ 1024 : Nat) : Int) := by
  obtain ⟨a, m, e, hx⟩ := hx
  obtain ⟨b, k, f, hy⟩ := hy
  obtain ⟨h0, h1⟩ := add_right hx hy
  by_cases hs : val x + val y = 0
  · rw [h0 hs, hs]
    have hz : val (zero (a && b)) = 0 := by cases (a && b) <;> decide +kernel
    refine ⟨zero_fn _, by rw [hz]; exact Int.natCast_nonneg _, by rw [hz]; exact Int.natCast_nonneg _⟩
  · exact sgn_near (h1 hs) h
theorem neg_fn {x : UInt64} (hx : Fn x) : Fn (neg x) ∧ val (neg x) = -val x := by
  obtain ⟨a, m, e, hx⟩ := hx
  exact ⟨⟨_, _, _, neg_decode hx⟩, neg_val hx⟩
theorem sub_near {x y : UInt64} (hx : Fn x) (hy : Fn y) (h : (val x - val y).natAbs < 2 ^ 1077) :
    Fn (sub x y) ∧ val (sub x y) - (val x - val y) ≤ ((2 ^ 1024 : Nat) : Int) ∧ (val x - val y) - val (sub x y) ≤ ((2 ^ 1024 : Nat) : Int) := by
  obtain ⟨a, m, e, hx⟩ := hx
  obtain ⟨b, k, f, hy⟩ := hy
  obtain ⟨h0, h1⟩ := sub_right hx hy
  by_cases hs : val x - val y = 0
  · rw [h0 hs, hs]
    have hz : val (zero (a && !b)) = 0 := by cases (a && !b) <;> decide +kernel
    exact ⟨zero_fn _, by rw [hz]; exact Int.natCast_nonneg _, by rw [hz]; exact Int.natCast_nonneg _⟩
  · exact sgn_near (h1 hs) h
theorem mul_near {x y : UInt64} (hx : Fn x) (hy : Fn y) (h : (val x * val y).natAbs < 2 ^ 1074 * 2 ^ 1077) :
    Fn (mul x y) ∧ val (mul x y) * ((2 ^ 1074 : Nat) : Int) - val x * val y ≤ ((2 ^ 1074 * 2 ^ 1024 : Nat) : Int) ∧ val x * val y - val (mul x y) * ((2 ^ 1074 : Nat) : Int) ≤ ((2 ^ 1074 * 2 ^ 1024 : Nat) : Int) := by
  obtain ⟨a, m, e, hx⟩ := hx
  obtain ⟨b, k, f, hy⟩ := hy
  have hr := mul_right hx hy
  rw [← Int.natAbs_mul] at hr
  obtain ⟨⟨m', e', hd⟩, hn, hv⟩ := near hr (Nat.two_pow_pos _) h
  have hn' := dist_le hn
  refine ⟨⟨_, m', e', hd⟩, ?_⟩
  have hs : val x * val y = sgn (a != b) (val x * val y).natAbs := by
    rw [val_eq hx, val_eq hy]
    generalize m * 2 ^ (e + 1074).toNat = X
    generalize k * 2 ^ (f + 1074).toNat = Y
    rw [Int.natAbs_mul, sgn_natAbs, sgn_natAbs]
    cases a <;> cases b <;> simp [sgn, Int.neg_mul, Int.mul_neg, Int.neg_neg, Int.natCast_mul]
  rw [Int.natCast_mul] at hn'
  generalize ((2 ^ 1074 * 2 ^ 1024 : Nat) : Int) = E at *
  generalize ((2 ^ 1074 : Nat) : Int) = P at *
  rw [hv, hs]
  unfold sgn
  generalize ((val x * val y).natAbs : Int) = X at *
  generalize ((val (mul x y)).natAbs : Int) = Y at *
  cases (a != b)
  · simp only [Bool.false_eq_true, if_false]
    rw [Int.mul_comm Y P]
    exact ⟨Int.not_lt.mp (fun u9 => lin [] [_, _, _] (.L 1 (.a (.v 2) (.i 1)) (.s (.v 1) (.v 0)) (.L 1 (.s (.v 1) (.v 0)) (.v 2) .n)) (by kernel_rfl) u9 hn'.2), Int.not_lt.mp (fun u9 => lin [] [_, _, _] (.L 1 (.a (.v 2) (.i 1)) (.s (.v 0) (.v 1)) (.L 1 (.s (.v 0) (.v 1)) (.v 2) .n)) (by kernel_rfl) u9 hn'.1)⟩
  · simp only [if_true]
    rw [Int.neg_mul, Int.mul_comm Y P]
    exact ⟨Int.not_lt.mp (fun u9 => lin [] [_, _, _] (.L 1 (.a (.v 2) (.i 1)) (.s (.g (.v 1)) (.g (.v 0))) (.L 1 (.s (.v 0) (.v 1)) (.v 2) .n)) (by kernel_rfl) u9 hn'.1), Int.not_lt.mp (fun u9 => lin [] [_, _, _] (.L 1 (.a (.v 2) (.i 1)) (.s (.g (.v 0)) (.g (.v 1))) (.L 1 (.s (.v 1) (.v 0)) (.v 2) .n)) (by kernel_rfl) u9 hn'.2)⟩
end
section
open PySem.Float64
noncomputable def PP : Int := ((2 ^ 1074 : Nat) : Int)
noncomputable def EE : Int := ((2 ^ 1024 : Nat) : Int)
theorem PP_pos : 0 < PP := Int.ofNat_lt.mpr (Nat.two_pow_pos _)
theorem PP_eq : EE * 1125899906842624 = PP := by decide +kernel
theorem PP_eight : ((2 ^ 1077 : Nat) : Int) = PP * 8 := by decide +kernel
/-- x is about v / S, to e / S -/
structure Ap (S : Int) (x : UInt64) (v e : Int) : Prop where
  fn : Fn x
  up : val x * S - v * PP ≤ e * PP
  dn : v * PP - val x * S ≤ e * PP
theorem size_of {S z v e : Int} (hS : 0 < S) (h1 : z * S - v * PP ≤ e * PP) (h2 : v * PP - z * S ≤ e * PP) (hv : v + e ≤ 7 * S) (hv2 : -v + e ≤ 7 * S) : z.natAbs < 2 ^ 1077 := by
  have hP := PP_pos
  have u1 : z * S ≤ (7 * PP) * S := by
    have : (v + e) * PP ≤ (7 * S) * PP := Int.mul_le_mul_of_nonneg_right hv (Int.le_of_lt hP)
    rw [Int.add_mul] at this
    rw [show 7 * S * PP = 7 * PP * S by rw [Int.mul_assoc, Int.mul_comm S PP, ← Int.mul_assoc]] at this
    exact Int.not_lt.mp (fun u9 => lin [] [_, _, _, _] (.L 1 (.a (.v 3) (.i 1)) (.v 0) (.L 1 (.s (.v 0) (.v 1)) (.v 2) (.L 1 (.a (.v 1) (.v 2)) (.v 3) .n))) (by kernel_rfl) u9 h1 this)
  have u2 : (-z) * S ≤ (7 * PP) * S := by
    have : (-v + e) * PP ≤ (7 * S) * PP := Int.mul_le_mul_of_nonneg_right hv2 (Int.le_of_lt hP)
    rw [Int.add_mul, Int.neg_mul] at this
    rw [show 7 * S * PP = 7 * PP * S by rw [Int.mul_assoc, Int.mul_comm S PP, ← Int.mul_assoc]] at this
    rw [Int.neg_mul]
    exact Int.not_lt.mp (fun u9 => lin [] [_, _, _, _] (.L 1 (.a (.v 3) (.i 1)) (.g (.v 1)) (.L 1 (.s (.v 0) (.v 1)) (.v 2) (.L 1 (.a (.g (.v 0)) (.v 2)) (.v 3) .n))) (by kernel_rfl) u9 h2 this)
  have w1 := Int.le_of_mul_le_mul_right u1 hS
  have w2 := Int.le_of_mul_le_mul_right u2 hS
  have e8 := PP_eight
  have : (z.natAbs : Int) < ((2 ^ 1077 : Nat) : Int) := by rw [e8]; exact Or.elim (Int.le_total 0 (z)) (fun q0 => Int.not_le.mp (fun u9 => lin [_] [_, _] (.L 1 (.r (.v 1) 8) (.z (.v 0)) (.L 1 (.v 0) (.m 7 (.v 1)) (.L 1 (.a (.i 0) (.i 1)) (.v 1) (.E 1 (.z (.v 0)) (.v 0) .n)))) (by kernel_rfl) u9 w1 hP (Int.natAbs_of_nonneg (Int.not_lt.mp (fun u9 => lin [] [_] (.L 1 (.a (.v 0) (.i 1)) (.i 0) (.L 1 (.i 0) (.v 0) .n)) (by kernel_rfl) u9 q0))))) (fun q0 => Int.not_le.mp (fun u9 => lin [_] [_, _] (.L 1 (.r (.v 1) 8) (.z (.v 0)) (.L 1 (.g (.v 0)) (.m 7 (.v 1)) (.L 1 (.a (.i 0) (.i 1)) (.v 1) (.E 1 (.z (.v 0)) (.g (.v 0)) .n)))) (by kernel_rfl) u9 w2 hP (Int.ofNat_natAbs_of_nonpos (Int.not_lt.mp (fun u9 => lin [] [_] (.L 1 (.a (.i 0) (.i 1)) (.v 0) (.L 1 (.v 0) (.i 0) .n)) (by kernel_rfl) u9 q0)))))
  exact Int.ofNat_lt.mp this
theorem ap_add {k x y v w e f} (hx : Ap (1125899906842624 * k) x v e) (hy : Ap (1125899906842624 * k) y w f) (hk : 0 < k) (h1 : v + w + (e + f) ≤ 7 * (1125899906842624 * k)) (h2 : -(v + w) + (e + f) ≤ 7 * (1125899906842624 * k)) :
    Ap (1125899906842624 * k) (add x y) (v + w) (e + f + k) := by
  have hz := size_of (S := 1125899906842624 * k) (z := val x + val y) (v := v + w) (e := e + f) (by exact Int.not_le.mp (fun u9 => lin [] [_] (.L 1 (.m 1125899906842624 (.v 0)) (.i 0) (.L 1125899906842624 (.a (.i 0) (.i 1)) (.v 0) .n)) (by kernel_rfl) u9 hk)) (by rw [Int.add_mul, Int.add_mul, Int.add_mul]; have := hx.up; have := hy.up; (rename_i w0; exact Int.not_lt.mp (fun u9 => lin [] [_, _, _, _, _, _] (.L 1 (.a (.a (.v 2) (.v 5)) (.i 1)) (.s (.a (.v 0) (.v 3)) (.a (.v 1) (.v 4))) (.L 1 (.s (.v 0) (.v 1)) (.v 2) (.L 1 (.s (.v 3) (.v 4)) (.v 5) .n))) (by kernel_rfl) u9 w0 this))) (by rw [Int.add_mul, Int.add_mul, Int.add_mul]; have := hx.dn; have := hy.dn; (rename_i w0; exact Int.not_lt.mp (fun u9 => lin [] [_, _, _, _, _, _] (.L 1 (.a (.a (.v 2) (.v 5)) (.i 1)) (.s (.a (.v 0) (.v 3)) (.a (.v 1) (.v 4))) (.L 1 (.s (.v 0) (.v 1)) (.v 2) (.L 1 (.s (.v 3) (.v 4)) (.v 5) .n))) (by kernel_rfl) u9 w0 this))) h1 h2
  obtain ⟨hf, u, d⟩ := add_near hx.fn hy.fn hz
  have hE : EE * (1125899906842624 * k) = k * PP := by rw [← Int.mul_assoc, PP_eq, Int.mul_comm]
  have u' := Int.mul_le_mul_of_nonneg_right u (show 0 ≤ 1125899906842624 * k by exact Int.not_lt.mp (fun u9 => lin [] [_] (.L 1 (.a (.m 1125899906842624 (.v 0)) (.i 1)) (.i 0) (.L 1125899906842624 (.a (.i 0) (.i 1)) (.v 0) .n)) (by kernel_rfl) u9 hk))
  have d' := Int.mul_le_mul_of_nonneg_right d (show 0 ≤ 1125899906842624 * k by exact Int.not_lt.mp (fun u9 => lin [] [_] (.L 1 (.a (.m 1125899906842624 (.v 0)) (.i 1)) (.i 0) (.L 1125899906842624 (.a (.i 0) (.i 1)) (.v 0) .n)) (by kernel_rfl) u9 hk))
  change _ ≤ EE * _ at u'
  change _ ≤ EE * _ at d'
  rw [hE, Int.sub_mul, Int.add_mul] at u' d'
  have a1 := hx.up
  have a2 := hx.dn
  have a3 := hy.up
  have a4 := hy.dn
  refine ⟨hf, ?_, ?_⟩
  · rw [Int.add_mul, Int.add_mul (e + f), Int.add_mul e f]
    exact Int.not_lt.mp (fun u9 => lin [] [_, _, _, _, _, _, _, _] (.L 1 (.a (.a (.a (.v 5) (.v 7)) (.v 0)) (.i 1)) (.s (.v 1) (.a (.v 4) (.v 6))) (.L 1 (.s (.v 1) (.a (.v 2) (.v 3))) (.v 0) (.L 1 (.s (.v 2) (.v 4)) (.v 5) (.L 1 (.s (.v 3) (.v 6)) (.v 7) .n)))) (by kernel_rfl) u9 u' a1 a3)
  · rw [Int.add_mul, Int.add_mul (e + f), Int.add_mul e f]
    exact Int.not_lt.mp (fun u9 => lin [] [_, _, _, _, _, _, _, _] (.L 1 (.a (.a (.a (.v 5) (.v 7)) (.v 0)) (.i 1)) (.s (.a (.v 4) (.v 6)) (.v 3)) (.L 1 (.s (.a (.v 1) (.v 2)) (.v 3)) (.v 0) (.L 1 (.s (.v 4) (.v 1)) (.v 5) (.L 1 (.s (.v 6) (.v 2)) (.v 7) .n)))) (by kernel_rfl) u9 d' a2 a4)
theorem ap_sub {k x y v w e f} (hx : Ap (1125899906842624 * k) x v e) (hy : Ap (1125899906842624 * k) y w f) (hk : 0 < k) (h1 : v - w + (e + f) ≤ 7 * (1125899906842624 * k)) (h2 : -(v - w) + (e + f) ≤ 7 * (1125899906842624 * k)) :
    Ap (1125899906842624 * k) (Float64.sub x y) (v - w) (e + f + k) := by
  have hz := size_of (S := 1125899906842624 * k) (z := val x - val y) (v := v - w) (e := e + f) (by exact Int.not_le.mp (fun u9 => lin [] [_] (.L 1 (.m 1125899906842624 (.v 0)) (.i 0) (.L 1125899906842624 (.a (.i 0) (.i 1)) (.v 0) .n)) (by kernel_rfl) u9 hk)) (by rw [Int.sub_mul, Int.sub_mul, Int.add_mul]; have := hx.up; have := hy.dn; (rename_i w0; exact Int.not_lt.mp (fun u9 => lin [] [_, _, _, _, _, _] (.L 1 (.a (.a (.v 2) (.v 5)) (.i 1)) (.s (.s (.v 0) (.v 4)) (.s (.v 1) (.v 3))) (.L 1 (.s (.v 0) (.v 1)) (.v 2) (.L 1 (.s (.v 3) (.v 4)) (.v 5) .n))) (by kernel_rfl) u9 w0 this))) (by rw [Int.sub_mul, Int.sub_mul, Int.add_mul]; have := hx.dn; have := hy.up; (rename_i w0; exact Int.not_lt.mp (fun u9 => lin [] [_, _, _, _, _, _] (.L 1 (.a (.a (.v 2) (.v 5)) (.i 1)) (.s (.s (.v 0) (.v 4)) (.s (.v 1) (.v 3))) (.L 1 (.s (.v 0) (.v 1)) (.v 2) (.L 1 (.s (.v 3) (.v 4)) (.v 5) .n))) (by kernel_rfl) u9 w0 this))) h1 h2
  obtain ⟨hf, u, d⟩ := sub_near hx.fn hy.fn hz
  have hE : EE * (1125899906842624 * k) = k * PP := by rw [← Int.mul_assoc, PP_eq, Int.mul_comm]
  have u' := Int.mul_le_mul_of_nonneg_right u (show 0 ≤ 1125899906842624 * k by exact Int.not_lt.mp (fun u9 => lin [] [_] (.L 1 (.a (.m 1125899906842624 (.v 0)) (.i 1)) (.i 0) (.L 1125899906842624 (.a (.i 0) (.i 1)) (.v 0) .n)) (by kernel_rfl) u9 hk))
  have d' := Int.mul_le_mul_of_nonneg_right d (show 0 ≤ 1125899906842624 * k by exact Int.not_lt.mp (fun u9 => lin [] [_] (.L 1 (.a (.m 1125899906842624 (.v 0)) (.i 1)) (.i 0) (.L 1125899906842624 (.a (.i 0) (.i 1)) (.v 0) .n)) (by kernel_rfl) u9 hk))
  change _ ≤ EE * _ at u'
  change _ ≤ EE * _ at d'
  rw [hE, Int.sub_mul, Int.sub_mul] at u' d'
  have a1 := hx.up
  have a2 := hx.dn
  have a3 := hy.up
  have a4 := hy.dn
  refine ⟨hf, ?_, ?_⟩
  · rw [Int.sub_mul, Int.add_mul (e + f), Int.add_mul e f]
    exact Int.not_lt.mp (fun u9 => lin [] [_, _, _, _, _, _, _, _] (.L 1 (.a (.a (.a (.v 5) (.v 7)) (.v 0)) (.i 1)) (.s (.v 1) (.s (.v 4) (.v 6))) (.L 1 (.s (.v 1) (.s (.v 2) (.v 3))) (.v 0) (.L 1 (.s (.v 2) (.v 4)) (.v 5) (.L 1 (.s (.v 6) (.v 3)) (.v 7) .n)))) (by kernel_rfl) u9 u' a1 a4)
  · rw [Int.sub_mul, Int.add_mul (e + f), Int.add_mul e f]
    exact Int.not_lt.mp (fun u9 => lin [] [_, _, _, _, _, _, _, _] (.L 1 (.a (.a (.a (.v 5) (.v 7)) (.v 0)) (.i 1)) (.s (.s (.v 4) (.v 6)) (.v 3)) (.L 1 (.s (.s (.v 1) (.v 2)) (.v 3)) (.v 0) (.L 1 (.s (.v 4) (.v 1)) (.v 5) (.L 1 (.s (.v 2) (.v 6)) (.v 7) .n)))) (by kernel_rfl) u9 d' a2 a3)
theorem ap_neg {S x v e} (hx : Ap S x v e) : Ap S (neg x) (-v) e := by
  obtain ⟨h1, h2⟩ := neg_fn hx.fn
  have a1 := hx.up
  have a2 := hx.dn
  refine ⟨h1, ?_, ?_⟩
  · rw [h2, Int.neg_mul, Int.neg_mul]; exact Int.not_lt.mp (fun u9 => lin [] [_, _, _] (.L 1 (.a (.v 2) (.i 1)) (.s (.g (.v 1)) (.g (.v 0))) (.L 1 (.s (.v 0) (.v 1)) (.v 2) .n)) (by kernel_rfl) u9 a2)
  · rw [h2, Int.neg_mul, Int.neg_mul]; exact Int.not_lt.mp (fun u9 => lin [] [_, _, _] (.L 1 (.a (.v 2) (.i 1)) (.s (.g (.v 1)) (.g (.v 0))) (.L 1 (.s (.v 0) (.v 1)) (.v 2) .n)) (by kernel_rfl) u9 a1)
theorem ap_scale {S x v e} (T : Int) (hT : 0 ≤ T) (hx : Ap S x v e) : Ap (S * T) x (v * T) (e * T) := by
  have a1 := Int.mul_le_mul_of_nonneg_right hx.up hT
  have a2 := Int.mul_le_mul_of_nonneg_right hx.dn hT
  rw [Int.sub_mul] at a1 a2
  have e1 : val x * (S * T) = val x * S * T := (Int.mul_assoc _ _ _).symm
  have e2 : v * T * PP = v * PP * T := by rw [Int.mul_assoc, Int.mul_comm T, ← Int.mul_assoc]
  have e3 : e * T * PP = e * PP * T := by rw [Int.mul_assoc, Int.mul_comm T, ← Int.mul_assoc]
  exact ⟨hx.fn, by rw [e1, e2, e3]; exact a1, by rw [e1, e2, e3]; exact a2⟩
end
section
open PySem.Float64
theorem ap_mul {k S T C c x v e} (hc : Fn c) (hcv : val c * T = C * PP) (hx : Ap S x v e) (hC : 0 ≤ C) (hS : 0 < S) (hT : 0 < T) (hk : S * T = 1125899906842624 * k) (h1 : C * (v + e) ≤ 7 * (S * T)) (h2 : C * (-v + e) ≤ 7 * (S * T)) :
    Ap (S * T) (mul c x) (C * v) (C * e + k) := by
  have hP := PP_pos
  have hST : 0 < S * T := Int.mul_pos hS hT
  have a1 := Int.mul_le_mul_of_nonneg_left hx.up hC
  have a2 := Int.mul_le_mul_of_nonneg_left hx.dn hC
  rw [Int.mul_sub] at a1 a2
  -- the exact product, scaled
  have ex : val c * val x * (S * T) = C * (val x * S) * PP := by
    rw [show val c * val x * (S * T) = (val c * T) * (val x * S) by ac_rfl, hcv]
    ac_rfl
  have b1 : val c * val x * (S * T) ≤ 7 * PP * PP * (S * T) := by
    rw [ex]
    have w : C * (val x * S) ≤ 7 * (S * T) * PP := by
      have q := Int.mul_le_mul_of_nonneg_right h1 (Int.le_of_lt hP)
      rw [Int.mul_add, Int.add_mul] at q
      have e1 : C * (v * PP) = C * v * PP := (Int.mul_assoc _ _ _).symm
      have e2 : C * (e * PP) = C * e * PP := (Int.mul_assoc _ _ _).symm
      lia
    have q := Int.mul_le_mul_of_nonneg_right w (Int.le_of_lt hP)
    rw [show 7 * PP * PP * (S * T) = 7 * (S * T) * PP * PP by ac_rfl]
    exact q
  have b2 : -(val c * val x) * (S * T) ≤ 7 * PP * PP * (S * T) := by
    rw [Int.neg_mul, ex]
    have w : -(C * (val x * S)) ≤ 7 * (S * T) * PP := by
      have q := Int.mul_le_mul_of_nonneg_right h2 (Int.le_of_lt hP)
      rw [Int.mul_add, Int.mul_neg, Int.add_mul, Int.neg_mul] at q
      have e1 : C * (v * PP) = C * v * PP := (Int.mul_assoc _ _ _).symm
      have e2 : C * (e * PP) = C * e * PP := (Int.mul_assoc _ _ _).symm
      lia
    have q := Int.mul_le_mul_of_nonneg_right w (Int.le_of_lt hP)
    rw [show 7 * PP * PP * (S * T) = 7 * (S * T) * PP * PP by ac_rfl, ← Int.neg_mul]
    exact q
  have hz : (val c * val x).natAbs < 2 ^ 1074 * 2 ^ 1077 := by
    have w1 := Int.le_of_mul_le_mul_right b1 hST
    have w2 := Int.le_of_mul_le_mul_right b2 hST
    have e8 : ((2 ^ 1074 * 2 ^ 1077 : Nat) : Int) = PP * PP * 8 := by decide +kernel
    have hPP : 0 < PP * PP := Int.mul_pos hP hP
    rw [Int.mul_assoc] at w1 w2
    have : ((val c * val x).natAbs : Int) < ((2 ^ 1074 * 2 ^ 1077 : Nat) : Int) := by
      rw [e8]
      generalize PP * PP = X at *
      generalize val c * val x = Z at *
      exact Or.elim (Int.le_total 0 (Z)) (fun q0 => Int.not_le.mp (fun u9 => lin [_] [_, _] (.L 1 (.r (.v 1) 8) (.z (.v 0)) (.L 1 (.v 0) (.m 7 (.v 1)) (.L 1 (.a (.i 0) (.i 1)) (.v 1) (.E 1 (.z (.v 0)) (.v 0) .n)))) (by kernel_rfl) u9 w1 hPP (Int.natAbs_of_nonneg (Int.not_lt.mp (fun u9 => lin [] [_] (.L 1 (.a (.v 0) (.i 1)) (.i 0) (.L 1 (.i 0) (.v 0) .n)) (by kernel_rfl) u9 q0))))) (fun q0 => Int.not_le.mp (fun u9 => lin [_] [_, _] (.L 1 (.r (.v 1) 8) (.z (.v 0)) (.L 1 (.g (.v 0)) (.m 7 (.v 1)) (.L 1 (.a (.i 0) (.i 1)) (.v 1) (.E 1 (.z (.v 0)) (.g (.v 0)) .n)))) (by kernel_rfl) u9 w2 hPP (Int.ofNat_natAbs_of_nonpos (Int.not_lt.mp (fun u9 => lin [] [_] (.L 1 (.a (.i 0) (.i 1)) (.v 0) (.L 1 (.v 0) (.i 0) .n)) (by kernel_rfl) u9 q0)))))
    exact Int.ofNat_lt.mp this
  obtain ⟨hf, u, d⟩ := mul_near hc hx.fn hz
  have hE : ((2 ^ 1074 * 2 ^ 1024 : Nat) : Int) * (S * T) = k * PP * PP := by
    have e0 : ((2 ^ 1074 * 2 ^ 1024 : Nat) : Int) = EE * PP := by decide +kernel
    rw [e0, hk, show EE * PP * (1125899906842624 * k) = EE * 1125899906842624 * k * PP by ac_rfl, PP_eq]
    ac_rfl
  have u' := Int.mul_le_mul_of_nonneg_right u (Int.le_of_lt hST)
  have d' := Int.mul_le_mul_of_nonneg_right d (Int.le_of_lt hST)
  change (val (mul c x) * PP - _) * _ ≤ _ at u'
  change (_ - val (mul c x) * PP) * _ ≤ _ at d'
  rw [hE, Int.sub_mul, ex, show val (mul c x) * PP * (S * T) = val (mul c x) * (S * T) * PP by ac_rfl, ← Int.sub_mul] at u' d'
  have u2 := Int.le_of_mul_le_mul_right u' hP
  have d2 := Int.le_of_mul_le_mul_right d' hP
  have e1 : C * (v * PP) = C * v * PP := (Int.mul_assoc _ _ _).symm
  have e2 : C * (e * PP) = C * e * PP := (Int.mul_assoc _ _ _).symm
  refine ⟨hf, ?_, ?_⟩
  · rw [Int.add_mul]; lia
  · rw [Int.add_mul]; lia
end
section
open PySem.Float64
theorem fn_of {x : UInt64} (h : isFinite x = true) : Fn x := by
  unfold isFinite at h
  cases hd : decode x with
  | fin a m e => exact ⟨a, m, e, hd⟩
  | _ => rw [hd] at h; simp at h
theorem d16_tab : ∀ n : Fin 64, isFinite (d16 (n.val : Int)) = true ∧ val (d16 (n.val : Int)) * 16 = (n.val : Int) * PP := by decide +kernel
theorem ap_d16 {n : Int} (h0 : 0 ≤ n) (h1 : n < 64) : Ap 16 (d16 n) n 0 := by
  obtain ⟨a, b⟩ := d16_tab ⟨n.toNat, by exact Or.elim (Int.le_total 0 (n)) (fun q0 => Nat.not_le.mp (fun u9 => lin [_] [_] (.l 1 (.c 64) (.v 0) (.L 1 (.a (.v 0) (.i 1)) (.i 64) (.E 1 (.z (.v 0)) (.v 0) .n))) (by kernel_rfl) u9 h1 (Int.toNat_of_nonneg (Int.not_lt.mp (fun u9 => lin [] [_] (.L 1 (.a (.v 0) (.i 1)) (.i 0) (.L 1 (.i 0) (.v 0) .n)) (by kernel_rfl) u9 q0))))) (fun q0 => Nat.not_le.mp (fun u9 => lin [_] [] (.l 1 (.c 64) (.v 0) (.e 1 (.v 0) (.c 0) .n)) (by kernel_rfl) u9 (Int.toNat_of_nonpos (Int.not_lt.mp (fun u9 => lin [] [_] (.L 1 (.a (.i 0) (.i 1)) (.v 0) (.L 1 (.v 0) (.i 0) .n)) (by kernel_rfl) u9 q0)))))⟩
  have e : ((n.toNat : Nat) : Int) = n := by exact linz [_] [_] (.z (.v 0)) (.v 0) (.E (-1) (.z (.v 0)) (.v 0) .n) (by kernel_rfl) (Int.toNat_of_nonneg (Int.not_lt.mp (fun u9 => lin [] [_] (.L 1 (.a (.v 0) (.i 1)) (.i 0) (.L 1 (.i 0) (.v 0) .n)) (by kernel_rfl) u9 h0)))
  dsimp only at a b
  rw [e] at a b
  exact ⟨fn_of a, by rw [b]; exact Int.not_lt.mp (fun u9 => lin [] [_, _] (.L 1 (.a (.m 0 (.v 0)) (.i 1)) (.s (.v 1) (.v 1)) .n) (by kernel_rfl) u9), by rw [b]; exact Int.not_lt.mp (fun u9 => lin [] [_, _] (.L 1 (.a (.m 0 (.v 0)) (.i 1)) (.s (.v 1) (.v 1)) .n) (by kernel_rfl) u9)⟩
end
section
open PySem.Float64
theorem cmp_fn {x y : UInt64} (hx : Fn x) (hy : Fn y) : cmp x y = some (compare (val x) (val y)) := by
  obtain ⟨a, m, e, hx⟩ := hx
  obtain ⟨b, k, f, hy⟩ := hy
  exact cmp_right hx hy
theorem fn_zero : Fn 0 := fn_of (by decide +kernel)
theorem val_zero : val 0 = 0 := by decide +kernel
theorem fn_one : Fn 4607182418800017408 := fn_of (by decide +kernel)
theorem val_one : val 4607182418800017408 = PP := by decide +kernel
theorem cmp_lt {x y : UInt64} (hx : Fn x) (hy : Fn y) : (cmp x y == some Ordering.lt) = decide (val x < val y) := by
  rw [cmp_fn hx hy]
  rcases Int.lt_trichotomy (val x) (val y) with h | h | h
  · rw [Int.compare_eq_lt.mpr h, decide_eq_true h]; rfl
  · rw [decide_eq_false (by exact fun u9 => lin [] [_, _] (.L 1 (.a (.v 0) (.i 1)) (.v 1) (.E (-1) (.v 0) (.v 1) .n)) (by kernel_rfl) u9 h), h, Int.compare_eq_eq.mpr rfl]; rfl
  · rw [Int.compare_eq_gt.mpr h, decide_eq_false (by exact fun u9 => lin [] [_, _] (.L 1 (.a (.v 1) (.i 1)) (.v 0) (.L 1 (.a (.v 0) (.i 1)) (.v 1) .n)) (by kernel_rfl) u9 h)]; rfl
theorem cmp_gt {x y : UInt64} (hx : Fn x) (hy : Fn y) : (cmp x y == some Ordering.gt) = decide (val y < val x) := by
  rw [cmp_fn hx hy]
  rcases Int.lt_trichotomy (val x) (val y) with h | h | h
  · rw [Int.compare_eq_lt.mpr h, decide_eq_false (by exact fun u9 => lin [] [_, _] (.L 1 (.a (.v 1) (.i 1)) (.v 0) (.L 1 (.a (.v 0) (.i 1)) (.v 1) .n)) (by kernel_rfl) u9 h)]; rfl
  · rw [decide_eq_false (by exact fun u9 => lin [] [_, _] (.L 1 (.a (.v 1) (.i 1)) (.v 0) (.E 1 (.v 0) (.v 1) .n)) (by kernel_rfl) u9 h), h, Int.compare_eq_eq.mpr rfl]; rfl
  · rw [Int.compare_eq_gt.mpr h, decide_eq_true h]; rfl
/-- the clamp of a number -/
noncomputable def clampI (S v : Int) : Int := if v < 0 then 0 else if S < v then S else v
theorem clamp_val {x : UInt64} (hx : Fn x) : Fn (clampF x) ∧ val (clampF x) = clampI PP (val x) := by
  have hP := PP_pos
  unfold clampF clampI
  rw [cmp_lt hx fn_zero, val_zero]
  by_cases h : val x < 0
  · rw [decide_eq_true h, if_pos rfl, if_pos h, cmp_gt fn_zero fn_one, val_zero, val_one, decide_eq_false (by exact fun u9 => lin [] [_] (.L 1 (.a (.v 0) (.i 1)) (.i 0) (.L 1 (.a (.i 0) (.i 1)) (.v 0) .n)) (by kernel_rfl) u9 hP), if_neg Bool.false_ne_true]
    exact ⟨fn_zero, val_zero⟩
  · rw [decide_eq_false h, if_neg Bool.false_ne_true, if_neg h, cmp_gt hx fn_one, val_one]
    by_cases h2 : PP < val x
    · rw [decide_eq_true h2, if_pos rfl, if_pos h2]
      exact ⟨fn_one, val_one⟩
    · rw [decide_eq_false h2, if_neg Bool.false_ne_true, if_neg h2]
      exact ⟨hx, rfl⟩
theorem clamp_mul {S X T : Int} (hT : 0 < T) : clampI S X * T = clampI (S * T) (X * T) := by
  unfold clampI
  have i1 : X * T < 0 ↔ X < 0 := by
    constructor
    · intro h
      apply Classical.byContradiction
      intro hn
      have := Int.mul_nonneg (show 0 ≤ X by exact Int.not_lt.mp (fun u9 => lin [] [_] (.L 1 (.a (.v 0) (.i 1)) (.i 0) (.L 1 (.i 0) (.v 0) .n)) (by kernel_rfl) u9 (Int.not_lt.mp hn))) (Int.le_of_lt hT)
      exact lin [] [_] (.L 1 (.a (.v 0) (.i 1)) (.i 0) (.L 1 (.i 0) (.v 0) .n)) (by kernel_rfl) h this
    · intro h; exact Int.mul_neg_of_neg_of_pos h hT
  have i2 : S * T < X * T ↔ S < X := ⟨fun h => Int.lt_of_mul_lt_mul_right h (Int.le_of_lt hT), fun h => Int.mul_lt_mul_of_pos_right h hT⟩
  by_cases h1 : X < 0
  · rw [if_pos h1, if_pos (i1.mpr h1), Int.zero_mul]
  · rw [if_neg h1, if_neg (fun h => h1 (i1.mp h))]
    by_cases h2 : S < X
    · rw [if_pos h2, if_pos (i2.mpr h2)]
    · rw [if_neg h2, if_neg (fun h => h2 (i2.mp h))]
theorem ap_clamp {S x v e} (hS : 0 < S) (he : 0 ≤ e) (hx : Ap S x v e) : Ap S (clampF x) (clampI S v) e := by
  obtain ⟨h1, h2⟩ := clamp_val hx.fn
  have a1 := hx.up
  have a2 := hx.dn
  have hE : 0 ≤ e * PP := Int.mul_nonneg he (Int.le_of_lt PP_pos)
  have hM : 0 < S * PP := Int.mul_pos hS PP_pos
  have e1 : val (clampF x) * S = clampI (S * PP) (val x * S) := by rw [h2, clamp_mul hS, Int.mul_comm PP S]
  have e2 : clampI S v * PP = clampI (S * PP) (v * PP) := clamp_mul PP_pos
  refine ⟨h1, ?_, ?_⟩
  · rw [e1, e2]
    generalize S * PP = M at *
    generalize val x * S = A at *
    generalize v * PP = B at *
    generalize e * PP = C at *
    unfold clampI
    split <;> split <;> (try split) <;> (try split) <;> (first | exact Int.not_lt.mp (fun u9 => lin [] [_, _, _] (.L 1 (.a (.v 2) (.i 1)) (.s (.v 0) (.v 1)) (.L 1 (.s (.v 0) (.v 1)) (.v 2) .n)) (by kernel_rfl) u9 a1) | exact Int.not_lt.mp (fun u9 => lin [] [_, _] (.L 1 (.a (.v 0) (.i 1)) (.s (.v 1) (.v 1)) (.L 1 (.i 0) (.v 0) .n)) (by kernel_rfl) u9 hE) | exact Int.not_lt.mp (fun u9 => lin [] [_, _] (.L 1 (.a (.v 1) (.i 1)) (.s (.i 0) (.v 0)) (.L 1 (.a (.i 0) (.i 1)) (.v 0) (.L 1 (.i 0) (.v 1) .n))) (by kernel_rfl) u9 hM hE) | exact Int.not_lt.mp (fun u9 => lin [] [_] (.L 1 (.a (.v 0) (.i 1)) (.i (0 - 0)) (.L 1 (.i 0) (.v 0) .n)) (by kernel_rfl) u9 hE) | (rename_i w0 _ _; exact Int.not_lt.mp (fun u9 => lin [] [_, _, _, _] (.L 1 (.a (.v 2) (.i 1)) (.s (.v 3) (.v 1)) (.L 1 (.s (.v 0) (.v 1)) (.v 2) (.L 1 (.a (.v 3) (.i 1)) (.v 0) .n))) (by kernel_rfl) u9 a1 w0)) | (rename_i w0 _ w2; exact Int.not_lt.mp (fun u9 => lin [] [_, _, _, _] (.L 1 (.a (.v 2) (.i 1)) (.s (.v 1) (.v 3)) (.L 1 (.s (.v 0) (.v 1)) (.v 2) (.L 2 (.v 1) (.v 3) (.L 1 (.a (.v 3) (.i 1)) (.v 0) .n)))) (by kernel_rfl) u9 a2 (Int.not_lt.mp w0) w2)) | (rename_i w0 _; exact Int.not_lt.mp (fun u9 => lin [] [_, _] (.L 1 (.a (.v 0) (.i 1)) (.s (.i 0) (.v 1)) (.L 1 (.i 0) (.v 0) (.L 1 (.i 0) (.v 1) .n))) (by kernel_rfl) u9 hE (Int.not_lt.mp w0))) | (rename_i w0 w1; exact Int.not_lt.mp (fun u9 => lin [] [_, _, _, _] (.L 1 (.a (.v 2) (.i 1)) (.s (.v 3) (.i 0)) (.L 1 (.s (.v 0) (.v 1)) (.v 2) (.L 1 (.a (.v 3) (.i 1)) (.v 0) (.L 1 (.a (.v 1) (.i 1)) (.i 0) .n)))) (by kernel_rfl) u9 a1 w0 w1)) | (rename_i w0; exact Int.not_lt.mp (fun u9 => lin [] [_, _, _] (.L 1 (.a (.v 2) (.i 1)) (.s (.v 0) (.i 0)) (.L 1 (.s (.v 0) (.v 1)) (.v 2) (.L 1 (.a (.v 1) (.i 1)) (.i 0) .n))) (by kernel_rfl) u9 a1 w0)))
  · rw [e1, e2]
    generalize S * PP = M at *
    generalize val x * S = A at *
    generalize v * PP = B at *
    generalize e * PP = C at *
    unfold clampI
    split <;> split <;> (try split) <;> (try split) <;> (first | exact Int.not_lt.mp (fun u9 => lin [] [_, _, _] (.L 1 (.a (.v 2) (.i 1)) (.s (.v 0) (.v 1)) (.L 1 (.s (.v 0) (.v 1)) (.v 2) .n)) (by kernel_rfl) u9 a2) | exact Int.not_lt.mp (fun u9 => lin [] [_, _] (.L 1 (.a (.v 0) (.i 1)) (.s (.v 1) (.v 1)) (.L 1 (.i 0) (.v 0) .n)) (by kernel_rfl) u9 hE) | exact Int.not_lt.mp (fun u9 => lin [] [_, _] (.L 1 (.a (.v 1) (.i 1)) (.s (.i 0) (.v 0)) (.L 1 (.a (.i 0) (.i 1)) (.v 0) (.L 1 (.i 0) (.v 1) .n))) (by kernel_rfl) u9 hM hE) | exact Int.not_lt.mp (fun u9 => lin [] [_] (.L 1 (.a (.v 0) (.i 1)) (.i (0 - 0)) (.L 1 (.i 0) (.v 0) .n)) (by kernel_rfl) u9 hE) | (rename_i w0 _ _; exact Int.not_lt.mp (fun u9 => lin [] [_, _, _, _] (.L 1 (.a (.v 2) (.i 1)) (.s (.v 3) (.v 1)) (.L 1 (.s (.v 0) (.v 1)) (.v 2) (.L 1 (.a (.v 3) (.i 1)) (.v 0) .n))) (by kernel_rfl) u9 a2 w0)) | (rename_i w0 _ _; exact Int.not_lt.mp (fun u9 => lin [] [_, _, _] (.L 1 (.a (.v 0) (.i 1)) (.s (.v 1) (.v 2)) (.L 1 (.i 0) (.v 0) (.L 1 (.v 1) (.v 2) .n))) (by kernel_rfl) u9 hE (Int.not_lt.mp w0))) | (rename_i w0 w1 _; exact Int.not_lt.mp (fun u9 => lin [] [_, _, _] (.L 1 (.a (.v 2) (.i 1)) (.s (.i 0) (.v 0)) (.L 1 (.s (.v 0) (.v 1)) (.v 2) (.L 1 (.a (.v 1) (.i 1)) (.i 0) (.L 2 (.i 0) (.v 0) .n)))) (by kernel_rfl) u9 a1 w0 (Int.not_lt.mp w1))) | (rename_i w0 w1; exact Int.not_lt.mp (fun u9 => lin [] [_, _, _, _] (.L 1 (.a (.v 2) (.i 1)) (.s (.v 3) (.i 0)) (.L 1 (.s (.v 0) (.v 1)) (.v 2) (.L 1 (.a (.v 3) (.i 1)) (.v 0) (.L 1 (.a (.v 1) (.i 1)) (.i 0) .n)))) (by kernel_rfl) u9 a2 w0 w1)) | (rename_i w0; exact Int.not_lt.mp (fun u9 => lin [] [_, _, _] (.L 1 (.a (.v 2) (.i 1)) (.s (.v 0) (.i 0)) (.L 1 (.s (.v 0) (.v 1)) (.v 2) (.L 1 (.a (.v 1) (.i 1)) (.i 0) .n))) (by kernel_rfl) u9 a2 w0)))
section
variable {prog : Program} {w : World} {A : Around} {E : Value → Shared → Prop} {s : Shared} {h₀ : Heap} {L : Addr} {m : Str → Option Value} {news : Led} {a b : Int} {t u : Tok} {Q : Value → Shared → Prop}
theorem max2_keep (hh : A.handled = none) (F : Fr h₀ L s.heap m) (N : News h₀ L s.heap news)
    (h : ∀ h' tk t', (∀ c o, s.heap.get? c = some o → h'.get? c = some o) → Fr h₀ L h' m → News h₀ L h' news → Q (.int (if b > a then b else a) t') { s with heap := h', toks := tk }) :
    wpAny (model prog w) A (call (.builtin "max") [.int a t, .int b u]) Q E s := by
  refine PySem.max_two_ints hh fun h' tk hold => ?_
  have := fun t' => h h' tk t' hold (F.grownK hold) (N.grown hold)
  split
  · rename_i hc; rw [if_pos hc] at this; exact this u
  · rename_i hc; rw [if_neg hc] at this; exact this t
theorem min2_keep (hh : A.handled = none) (F : Fr h₀ L s.heap m) (N : News h₀ L s.heap news)
    (h : ∀ h' tk t', (∀ c o, s.heap.get? c = some o → h'.get? c = some o) → Fr h₀ L h' m → News h₀ L h' news → Q (.int (if b < a then b else a) t') { s with heap := h', toks := tk }) :
    wpAny (model prog w) A (call (.builtin "min") [.int a t, .int b u]) Q E s := by
  refine PySem.min_two_ints hh fun h' tk hold => ?_
  have := fun t' => h h' tk t' hold (F.grownK hold) (N.grown hold)
  split
  · rename_i hc; rw [if_pos hc] at this; exact this u
  · rename_i hc; rw [if_neg hc] at this; exact this t
end
theorem clamp_tok (v : Int) (t : Tok) : Value.int (if (if v > 0 then v else 0) < 16 then (if v > 0 then v else 0) else 16) t = Value.int (clampI 16 v) t := by
  congr 1
  unfold clampI
  split <;> split <;> (try split) <;> (try split) <;> lia
end
section
open PySem.Float64
theorem grid2 {q : Nat} (hq : q < 2 ^ 53) : ∃ t, V t = q * 2 ^ 1027 := by
  by_cases h0 : q = 0
  · exact ⟨0, by rw [V_zero, h0, Nat.zero_mul]⟩
  · have h1 := Nat.log2_self_le h0
    have h2 := @Nat.lt_log2_self q
    have h3 : q.log2 < 53 := (Nat.log2_lt h0).mpr hq
    refine ⟨(1027 - (52 - q.log2)) * 2 ^ 52 + q * 2 ^ (52 - q.log2), ?_⟩
    have a1 : q * 2 ^ (52 - q.log2) ≤ 2 ^ 53 := by
      have : q * 2 ^ (52 - q.log2) ≤ 2 ^ (q.log2 + 1) * 2 ^ (52 - q.log2) := Nat.mul_le_mul_right _ (Nat.le_of_lt h2)
      rw [← Nat.pow_add, show q.log2 + 1 + (52 - q.log2) = 53 by exact linn [_, _] [] (.a (.a (.v 0) (.c 1)) (.v 1)) (.c 53) (.e (-1) (.a (.v 1) (.v 0)) (.c 52) .n) (by kernel_rfl) (Nat.sub_add_cancel (Nat.not_lt.mp (fun u9 => lin [_] [] (.l 1 (.a (.c 52) (.c 1)) (.v 0) (.l 1 (.a (.v 0) (.c 1)) (.c 53) .n)) (by kernel_rfl) u9 h3)))] at this
      exact this
    have a2 : 2 ^ 52 ≤ q * 2 ^ (52 - q.log2) := by
      have : 2 ^ q.log2 * 2 ^ (52 - q.log2) ≤ q * 2 ^ (52 - q.log2) := Nat.mul_le_mul_right _ h1
      rw [← Nat.pow_add, show q.log2 + (52 - q.log2) = 52 by exact linn [_, _] [] (.a (.v 0) (.v 1)) (.c 52) (.e (-1) (.a (.v 1) (.v 0)) (.c 52) .n) (by kernel_rfl) (Nat.sub_add_cancel (Nat.not_lt.mp (fun u9 => lin [_] [] (.l 1 (.a (.c 52) (.c 1)) (.v 0) (.l 1 (.a (.v 0) (.c 1)) (.c 53) .n)) (by kernel_rfl) u9 h3)))] at this
      exact this
    rw [V_at a1 (.inl a2), Nat.mul_assoc, ← Nat.pow_add]
    congr 2
    exact linn [_, _] [] (.a (.v 0) (.v 1)) (.c 1027) (.e (-1) (.a (.v 1) (.v 0)) (.c 1027) .n) (by kernel_rfl) (Nat.sub_add_cancel (Nat.not_lt.mp (fun u9 => lin [_] [] (.l 1 (.a (.c 1027) (.c 1)) (.v 0) (.l 1 (.v 0) (.c 52) .n)) (by kernel_rfl) u9 (Nat.sub_le _ _))))
theorem near2 {r : UInt64} {neg : Bool} {W D : Nat} (h : Right r neg W D) (hD : 0 < D) (hW : W < D * 2 ^ 1080) :
    (∃ m e, decode r = .fin neg m e) ∧ dist W (D * (val r).natAbs) ≤ D * 2 ^ 1027 ∧ val r = sgn neg (val r).natAbs := by
  obtain ⟨t, rfl, hle, hov, hn⟩ := h
  have hlt : t < infMag := by
    rcases Nat.lt_or_ge t infMag with h | h
    · exact h
    · exfalso
      have := hov.mp (Nat.le_antisymm hle h)
      have h2 : D * 2 ^ 1081 ≤ D * ((2 ^ 54 - 1) * 2 ^ 2045) := Nat.mul_le_mul_left _ (by decide +kernel)
      have h3 : D * 2 ^ 1081 = 2 * (D * 2 ^ 1080) := by rw [show (2 : Nat) ^ 1081 = 2 * 2 ^ 1080 from by decide +kernel]; ac_rfl
      generalize D * ((2 ^ 54 - 1) * 2 ^ 2045) = X at *
      generalize D * 2 ^ 1081 = Y at *
      generalize D * 2 ^ 1080 = Z at *
      exact lin [_, _, _, _] [] (.l 1 (.v 0) (.m 2 (.v 1)) (.l 1 (.v 2) (.v 0) (.l 2 (.a (.v 1) (.c 1)) (.v 3) (.e (-1) (.v 2) (.m 2 (.v 3)) .n)))) (by kernel_rfl) this h2 hW h3
  obtain ⟨m, e, h1, h2⟩ := decode_pack neg hlt
  have hv := val_pack neg hlt
  have ha : (val (pack neg t)).natAbs = V t := by rw [hv, sgn_natAbs]
  refine ⟨⟨m, e, h1⟩, ?_, by rw [ha]; exact hv⟩
  rw [ha]
  have hq : W / (D * 2 ^ 1027) < 2 ^ 53 := by
    rw [Nat.div_lt_iff_lt_mul (Nat.mul_pos hD (Nat.two_pow_pos _))]
    rw [show (2 : Nat) ^ 53 * (D * 2 ^ 1027) = D * 2 ^ 1080 by rw [show (2 : Nat) ^ 1080 = 2 ^ 53 * 2 ^ 1027 from by decide +kernel]; ac_rfl]
    exact hW
  obtain ⟨t', ht⟩ := grid2 hq
  refine Nat.le_trans (hn hlt t').1 ?_
  rw [ht]
  have hdm := Nat.div_add_mod W (D * 2 ^ 1027)
  have hml := Nat.mod_lt W (Nat.mul_pos hD (Nat.two_pow_pos 1027))
  have e1 : D * (W / (D * 2 ^ 1027) * 2 ^ 1027) = D * 2 ^ 1027 * (W / (D * 2 ^ 1027)) := by ac_rfl
  rw [e1]
  exact dst_ok hml hdm
end
section
open PySem.Float64
theorem toInt_of {x : UInt64} {n : Nat} (hx : Fn x) (h1 : (n : Int) * PP ≤ val x) (h2 : val x < ((n : Int) + 1) * PP) : Flt.toInt truncOf x = (n : Int) := by
  obtain ⟨a, m, e, hd⟩ := hx
  have hge := decode_ge hd
  rw [Flt.toInt_fin hd]
  have hv := val_eq hd
  have hP := PP_pos
  have h0 : 0 ≤ val x := Int.le_trans (Int.mul_nonneg (Int.natCast_nonneg _) (Int.le_of_lt hP)) h1
  have hna : (val x) = ((m * 2 ^ (e + 1074).toNat : Nat) : Int) := by
    have := val_natAbs hd
    exact linz [_, _] [_] (.v 0) (.z (.v 1)) (.e (-1) (.v 0) (.v 1) (.E 1 (.z (.v 0)) (.v 0) .n)) (by kernel_rfl) this (Int.natAbs_of_nonneg (Int.not_lt.mp (fun u9 => lin [_, _] [_] (.L 1 (.a (.v 0) (.i 1)) (.i 0) (.e (-1) (.v 0) (.v 1) (.E 1 (.z (.v 0)) (.v 0) .n))) (by kernel_rfl) u9 this (Int.natAbs_of_nonneg (Int.not_lt.mp (fun u9 => lin [] [_] (.L 1 (.a (.v 0) (.i 1)) (.i 0) (.L 1 (.i 0) (.v 0) .n)) (by kernel_rfl) u9 h0))))))
  have key : floorOf false m e = (n : Int) := by
    unfold floorOf
    have es : sgn false m = (m : Int) := rfl
    rw [es]
    rw [hna] at h1 h2
    unfold PP at h1 h2
    have h1' : n * 2 ^ 1074 ≤ m * 2 ^ (e + 1074).toNat := by exact_mod_cast h1
    have h2' : m * 2 ^ (e + 1074).toNat < (n + 1) * 2 ^ 1074 := by exact_mod_cast h2
    by_cases he : e ≥ 0
    · rw [if_pos he]
      have : (e + 1074).toNat = e.toNat + 1074 := by exact linn [_, _] [_] (.v 0) (.a (.v 1) (.c 1074)) (.E (-1) (.z (.v 0)) (.a (.v 0) (.i 1074)) (.E 1 (.z (.v 1)) (.v 0) .n)) (by kernel_rfl) (Int.toNat_of_nonneg (Int.not_lt.mp (fun u9 => lin [] [_] (.L 1 (.a (.a (.v 0) (.i 1074)) (.i 1)) (.i 0) (.L 1 (.i (-1074)) (.v 0) .n)) (by kernel_rfl) u9 hge))) (Int.toNat_of_nonneg (Int.not_lt.mp (fun u9 => lin [] [_] (.L 1 (.a (.v 0) (.i 1)) (.i 0) (.L 1 (.i 0) (.v 0) .n)) (by kernel_rfl) u9 he)))
      rw [this, Nat.pow_add, ← Nat.mul_assoc] at h1' h2'
      have q1 := Nat.le_of_mul_le_mul_right h1' (Nat.two_pow_pos 1074)
      have q2 := Nat.lt_of_mul_lt_mul_right h2'
      have : m * 2 ^ e.toNat = n := by exact Nat.le_antisymm (Nat.not_lt.mp (fun u9 => lin [_, _] [] (.l 1 (.a (.v 0) (.c 1)) (.v 1) (.l 1 (.a (.v 1) (.c 1)) (.a (.v 0) (.c 1)) .n)) (by kernel_rfl) u9 q2)) (Nat.not_lt.mp (fun u9 => lin [_, _] [] (.l 1 (.a (.v 1) (.c 1)) (.v 0) (.l 1 (.v 0) (.v 1) .n)) (by kernel_rfl) u9 q1))
      rw [← this]
      simp
    · rw [if_neg he]
      have hsum : 2 ^ 1074 = 2 ^ (-e).toNat * 2 ^ (e + 1074).toNat := by rw [← Nat.pow_add]; congr 1; exact linn [_, _] [_] (.c 1074) (.a (.v 0) (.v 1)) (.E 1 (.z (.v 0)) (.g (.v 0)) (.E 1 (.z (.v 1)) (.a (.v 0) (.i 1074)) .n)) (by kernel_rfl) (Int.toNat_of_nonneg (Int.not_lt.mp (fun u9 => lin [] [_] (.L 1 (.a (.g (.v 0)) (.i 1)) (.i 0) (.L 1 (.a (.v 0) (.i 1)) (.i 0) .n)) (by kernel_rfl) u9 (Int.not_le.mp he)))) (Int.toNat_of_nonneg (Int.not_lt.mp (fun u9 => lin [] [_] (.L 1 (.a (.a (.v 0) (.i 1074)) (.i 1)) (.i 0) (.L 1 (.i (-1074)) (.v 0) .n)) (by kernel_rfl) u9 hge)))
      rw [hsum, ← Nat.mul_assoc] at h1' h2'
      have q1 := Nat.le_of_mul_le_mul_right h1' (Nat.two_pow_pos _)
      have q2 := Nat.lt_of_mul_lt_mul_right h2'
      have hq : m / 2 ^ (-e).toNat = n := by
        apply Nat.div_eq_of_lt_le
        · exact q1
        · exact q2
      rw [← hq]
      rw [Int.fdiv_eq_ediv_of_nonneg _ (by exact_mod_cast Nat.zero_le _)]
      simp
  unfold truncOf
  cases a with
  | false => exact key
  | true =>
    have hm : m * 2 ^ (e + 1074).toNat = 0 := by
      rw [hv] at hna
      unfold sgn at hna
      simp only [if_true] at hna
      exact Nat.le_antisymm (Nat.not_lt.mp (fun u9 => lin [_] [] (.l 2 (.a (.c 0) (.c 1)) (.v 0) (.E (-1) (.g (.z (.v 0))) (.z (.v 0)) .n)) (by kernel_rfl) u9 hna)) (Nat.not_lt.mp (fun u9 => lin [_] [] (.l 2 (.a (.v 0) (.c 1)) (.c 0) (.E 1 (.g (.z (.v 0))) (.z (.v 0)) .n)) (by kernel_rfl) u9 hna))
    have hm0 : m = 0 := by
      rcases Nat.mul_eq_zero.mp hm with h | h
      · exact h
      · exact absurd h (Nat.ne_of_gt (Nat.two_pow_pos _))
    simp only [if_true]
    unfold ceilOf
    rw [show (!true) = false from rfl, key]
    subst hm0
    have : (n : Int) = 0 := by
      rw [← key]; unfold floorOf sgn; simp
    exact linz [_] [] (.g (.z (.v 0))) (.z (.v 0)) (.E 2 (.z (.v 0)) (.i 0) .n) (by kernel_rfl) this
end
section
open PySem.Float64
theorem sixteen : Fn (ofInt 16) ∧ val (ofInt 16) = 16 * PP := ⟨fn_of (by decide +kernel), by decide +kernel⟩
theorem half : Fn 4602678819172646912 ∧ val 4602678819172646912 * 2 = PP := ⟨fn_of (by decide +kernel), by decide +kernel⟩
theorem PP_e8 : EE * 8 * 140737488355328 = PP := by decide +kernel
theorem sgn_near2 {r : UInt64} {z : Int} (hr : Right r (decide (z < 0)) z.natAbs 1) (h : z.natAbs < 2 ^ 1080) :
    Fn r ∧ val r - z ≤ 8 * EE ∧ z - val r ≤ 8 * EE := by
  obtain ⟨⟨m', e', hd⟩, hn, hv⟩ := near2 hr (by decide) (by rw [Nat.one_mul]; exact h)
  rw [Nat.one_mul, Nat.one_mul] at hn
  have hn' := dist_le hn
  have e8 : ((2 ^ 1027 : Nat) : Int) = 8 * EE := by decide +kernel
  rw [e8] at hn'
  refine ⟨⟨_, m', e', hd⟩, ?_⟩
  rw [hv]
  unfold sgn
  by_cases hneg : z < 0
  · rw [decide_eq_true hneg]
    simp only [if_true]
    exact ⟨Int.not_lt.mp (fun u9 => lin [_, _] [_, _] (.L 1 (.a (.m 8 (.v 0)) (.i 1)) (.s (.g (.z (.v 1))) (.v 1)) (.L 1 (.s (.z (.v 0)) (.z (.v 1))) (.m 8 (.v 0)) (.E (-1) (.z (.v 0)) (.g (.v 1)) .n))) (by kernel_rfl) u9 hn'.1 (Int.ofNat_natAbs_of_nonpos (Int.not_lt.mp (fun u9 => lin [] [_] (.L 1 (.a (.i 0) (.i 1)) (.v 0) (.L 1 (.a (.v 0) (.i 1)) (.i 0) .n)) (by kernel_rfl) u9 hneg)))), Int.not_lt.mp (fun u9 => lin [_, _] [_, _] (.L 1 (.a (.m 8 (.v 0)) (.i 1)) (.s (.v 1) (.g (.z (.v 1)))) (.L 1 (.s (.z (.v 1)) (.z (.v 0))) (.m 8 (.v 0)) (.E 1 (.z (.v 0)) (.g (.v 1)) .n))) (by kernel_rfl) u9 hn'.2 (Int.ofNat_natAbs_of_nonpos (Int.not_lt.mp (fun u9 => lin [] [_] (.L 1 (.a (.i 0) (.i 1)) (.v 0) (.L 1 (.a (.v 0) (.i 1)) (.i 0) .n)) (by kernel_rfl) u9 hneg))))⟩
  · rw [decide_eq_false hneg]
    simp only [Bool.false_eq_true, if_false]
    exact ⟨Int.not_lt.mp (fun u9 => lin [_, _] [_, _] (.L 1 (.a (.m 8 (.v 0)) (.i 1)) (.s (.z (.v 1)) (.v 1)) (.L 1 (.s (.z (.v 1)) (.z (.v 0))) (.m 8 (.v 0)) (.E 1 (.z (.v 0)) (.v 1) .n))) (by kernel_rfl) u9 hn'.2 (Int.natAbs_of_nonneg (Int.not_lt.mp (fun u9 => lin [_] [_] (.L 1 (.a (.v 0) (.i 1)) (.i 0) (.E 1 (.z (.v 0)) (.v 0) .n)) (by kernel_rfl) u9 (Int.natAbs_of_nonneg (Int.not_lt.mp (fun u9 => lin [] [_] (.L 1 (.a (.v 0) (.i 1)) (.i 0) (.L 1 (.i 0) (.v 0) .n)) (by kernel_rfl) u9 (Int.not_lt.mp hneg)))))))), Int.not_lt.mp (fun u9 => lin [_, _] [_, _] (.L 1 (.a (.m 8 (.v 0)) (.i 1)) (.s (.v 1) (.z (.v 1))) (.L 1 (.s (.z (.v 0)) (.z (.v 1))) (.m 8 (.v 0)) (.E (-1) (.z (.v 0)) (.v 1) .n))) (by kernel_rfl) u9 hn'.1 (Int.natAbs_of_nonneg (Int.not_lt.mp (fun u9 => lin [_] [_] (.L 1 (.a (.v 0) (.i 1)) (.i 0) (.E 1 (.z (.v 0)) (.v 0) .n)) (by kernel_rfl) u9 (Int.natAbs_of_nonneg (Int.not_lt.mp (fun u9 => lin [] [_] (.L 1 (.a (.v 0) (.i 1)) (.i 0) (.L 1 (.i 0) (.v 0) .n)) (by kernel_rfl) u9 (Int.not_lt.mp hneg))))))))⟩
theorem mul_near2 {x y : UInt64} (hx : Fn x) (hy : Fn y) (h : (val x * val y).natAbs < 2 ^ 1074 * 2 ^ 1080) :
    Fn (mul x y) ∧ val (mul x y) * ((2 ^ 1074 : Nat) : Int) - val x * val y ≤ ((2 ^ 1074 * 2 ^ 1027 : Nat) : Int) ∧ val x * val y - val (mul x y) * ((2 ^ 1074 : Nat) : Int) ≤ ((2 ^ 1074 * 2 ^ 1027 : Nat) : Int) := by
  obtain ⟨a, m, e, hx⟩ := hx
  obtain ⟨b, k, f, hy⟩ := hy
  have hr := mul_right hx hy
  rw [← Int.natAbs_mul] at hr
  obtain ⟨⟨m', e', hd⟩, hn, hv⟩ := near2 hr (Nat.two_pow_pos _) h
  have hn' := dist_le hn
  refine ⟨⟨_, m', e', hd⟩, ?_⟩
  have hs : val x * val y = sgn (a != b) (val x * val y).natAbs := by
    rw [val_eq hx, val_eq hy]
    generalize m * 2 ^ (e + 1074).toNat = X
    generalize k * 2 ^ (f + 1074).toNat = Y
    rw [Int.natAbs_mul, sgn_natAbs, sgn_natAbs]
    cases a <;> cases b <;> simp [sgn, Int.neg_mul, Int.mul_neg, Int.neg_neg, Int.natCast_mul]
  rw [Int.natCast_mul] at hn'
  generalize ((2 ^ 1074 * 2 ^ 1027 : Nat) : Int) = E at *
  generalize ((2 ^ 1074 : Nat) : Int) = P at *
  rw [hv, hs]
  unfold sgn
  generalize ((val x * val y).natAbs : Int) = X at *
  generalize ((val (mul x y)).natAbs : Int) = Y at *
  cases (a != b)
  · simp only [Bool.false_eq_true, if_false]
    rw [Int.mul_comm Y P]
    exact ⟨Int.not_lt.mp (fun u9 => lin [] [_, _, _] (.L 1 (.a (.v 2) (.i 1)) (.s (.v 1) (.v 0)) (.L 1 (.s (.v 1) (.v 0)) (.v 2) .n)) (by kernel_rfl) u9 hn'.2), Int.not_lt.mp (fun u9 => lin [] [_, _, _] (.L 1 (.a (.v 2) (.i 1)) (.s (.v 0) (.v 1)) (.L 1 (.s (.v 0) (.v 1)) (.v 2) .n)) (by kernel_rfl) u9 hn'.1)⟩
  · simp only [if_true]
    rw [Int.neg_mul, Int.mul_comm Y P]
    exact ⟨Int.not_lt.mp (fun u9 => lin [] [_, _, _] (.L 1 (.a (.v 2) (.i 1)) (.s (.g (.v 1)) (.g (.v 0))) (.L 1 (.s (.v 0) (.v 1)) (.v 2) .n)) (by kernel_rfl) u9 hn'.1), Int.not_lt.mp (fun u9 => lin [] [_, _, _] (.L 1 (.a (.v 2) (.i 1)) (.s (.g (.v 0)) (.g (.v 1))) (.L 1 (.s (.v 1) (.v 0)) (.v 2) .n)) (by kernel_rfl) u9 hn'.2)⟩
theorem lamp_of {S x v e} {n : Nat} (hS : 0 < S) (hx : Ap S x v e) (hn : n ≤ 16) (h1 : 64 * (v + e) ≤ 4 * (n : Int) * S + S) (h2 : 4 * (n : Int) * S ≤ 64 * (v - e) + S) : OkF x ∧ lampI x = (n : Int) := by
  have hP := PP_pos
  have a1 := hx.up
  have a2 := hx.dn
  have w1 : 64 * val x ≤ 4 * (n : Int) * PP + PP := by
    have q := Int.mul_le_mul_of_nonneg_right h1 (Int.le_of_lt hP)
    have e1 : 64 * (v + e) * PP = 64 * (v * PP + e * PP) := by rw [Int.mul_assoc, Int.add_mul]
    have e2 : (4 * (n : Int) * S + S) * PP = (4 * (n : Int) * PP + PP) * S := by rw [Int.add_mul, Int.add_mul]; ac_rfl
    rw [e1, e2] at q
    have : 64 * val x * S ≤ (4 * (n : Int) * PP + PP) * S := by rw [Int.mul_assoc]; exact Int.not_lt.mp (fun u9 => lin [] [_, _, _, _] (.L 1 (.a (.v 3) (.i 1)) (.m 64 (.v 0)) (.L 64 (.s (.v 0) (.v 1)) (.v 2) (.L 1 (.m 64 (.a (.v 1) (.v 2))) (.v 3) .n))) (by kernel_rfl) u9 a1 q)
    exact Int.le_of_mul_le_mul_right this hS
  have w2 : 4 * (n : Int) * PP ≤ 64 * val x + PP := by
    have q := Int.mul_le_mul_of_nonneg_right h2 (Int.le_of_lt hP)
    have e1 : (64 * (v - e) + S) * PP = 64 * (v * PP - e * PP) + PP * S := by rw [Int.add_mul, Int.mul_assoc, Int.sub_mul, Int.mul_comm S PP]
    have e2 : 4 * (n : Int) * S * PP = (4 * (n : Int) * PP) * S := by ac_rfl
    rw [e1, e2] at q
    have : (4 * (n : Int) * PP) * S ≤ (64 * val x + PP) * S := by rw [Int.add_mul, Int.mul_assoc 64]; exact Int.not_lt.mp (fun u9 => lin [] [_, _, _, _, _] (.L 1 (.a (.a (.m 64 (.v 1)) (.v 4)) (.i 1)) (.v 3) (.L 64 (.s (.v 0) (.v 1)) (.v 2) (.L 1 (.v 3) (.a (.m 64 (.s (.v 0) (.v 2))) (.v 4)) .n))) (by kernel_rfl) u9 a2 q)
    exact Int.le_of_mul_le_mul_right this hS
  have hPP : 0 < PP * PP := Int.mul_pos hP hP
  have hnn : (n : Int) * PP ≤ 16 * PP := Int.mul_le_mul_of_nonneg_right (by exact Int.not_lt.mp (fun u9 => lin [_] [] (.L 1 (.a (.i 16) (.i 1)) (.z (.v 0)) (.l 1 (.v 0) (.c 16) .n)) (by kernel_rfl) u9 hn)) (Int.le_of_lt hP)
  have hn0 : 0 ≤ (n : Int) * PP := Int.mul_nonneg (Int.natCast_nonneg _) (Int.le_of_lt hP)
  rw [Int.mul_assoc] at w1 w2
  have e8 : ((2 ^ 1074 * 2 ^ 1080 : Nat) : Int) = PP * (PP * 64) := by decide +kernel
  have hz : (val (ofInt 16) * val x).natAbs < 2 ^ 1074 * 2 ^ 1080 := by
    have : ((val (ofInt 16) * val x).natAbs : Int) < ((2 ^ 1074 * 2 ^ 1080 : Nat) : Int) := by
      rw [e8, sixteen.2]
      have u1 : 16 * val x < PP * 64 := by exact Int.not_le.mp (fun u9 => lin [] [_, _, _] (.L 4 (.r (.v 0) 64) (.m 16 (.v 1)) (.L 191 (.a (.i 0) (.i 1)) (.v 0) (.L 1 (.m 64 (.v 1)) (.a (.m 4 (.v 2)) (.v 0)) (.L 4 (.v 2) (.m 16 (.v 0)) .n)))) (by kernel_rfl) u9 hP w1 hnn)
      have u2 : -(16 * val x) < PP * 64 := by exact Int.not_le.mp (fun u9 => lin [] [_, _, _] (.L 257 (.r (.v 2) 64) (.g (.m 16 (.v 1))) (.L 128 (.m 4 (.v 0)) (.a (.m 64 (.v 1)) (.v 2)) (.L 512 (.i 0) (.v 0) (.L 255 (.a (.m 16 (.v 1)) (.i 1)) (.r (.v 2) 64) .n)))) (by kernel_rfl) u9 w2 hn0 u1)
      have v1 := Int.mul_lt_mul_of_pos_left u1 hP
      have v2 := Int.mul_lt_mul_of_pos_left u2 hP
      rw [show 16 * PP * val x = PP * (16 * val x) by ac_rfl]
      rw [Int.mul_neg] at v2
      exact Or.elim (Int.le_total 0 (PP * (16 * val x))) (fun q0 => Int.not_le.mp (fun u9 => lin [_] [_, _] (.L 1 (.v 1) (.z (.v 0)) (.L 1 (.a (.v 0) (.i 1)) (.v 1) (.E 1 (.z (.v 0)) (.v 0) .n))) (by kernel_rfl) u9 v1 (Int.natAbs_of_nonneg (Int.not_lt.mp (fun u9 => lin [] [_] (.L 1 (.a (.v 0) (.i 1)) (.i 0) (.L 1 (.i 0) (.v 0) .n)) (by kernel_rfl) u9 q0))))) (fun q0 => Int.not_le.mp (fun u9 => lin [_] [_, _] (.L 1 (.v 1) (.z (.v 0)) (.L 1 (.a (.g (.v 0)) (.i 1)) (.v 1) (.E 1 (.z (.v 0)) (.g (.v 0)) .n))) (by kernel_rfl) u9 v2 (Int.ofNat_natAbs_of_nonpos (Int.not_lt.mp (fun u9 => lin [] [_] (.L 1 (.a (.i 0) (.i 1)) (.v 0) (.L 1 (.v 0) (.i 0) .n)) (by kernel_rfl) u9 q0)))))
    exact Int.ofNat_lt.mp this
  obtain ⟨hf, u, d⟩ := mul_near2 sixteen.1 hx.fn hz
  have e9 : ((2 ^ 1074 * 2 ^ 1027 : Nat) : Int) = 8 * EE * PP := by decide +kernel
  have e10 : ((2 ^ 1074 : Nat) : Int) = PP := rfl
  rw [e9, e10, sixteen.2, show 16 * PP * val x = 16 * val x * PP by ac_rfl, ← Int.sub_mul] at u d
  have u' := Int.le_of_mul_le_mul_right u hP
  have d' := Int.le_of_mul_le_mul_right d hP
  have hE := PP_e8
  have hh := half.2
  obtain ⟨ha, hm, he, hda⟩ := hf
  obtain ⟨hb, hk, hf', hdb⟩ := half.1
  obtain ⟨r0, r1⟩ := add_right hda hdb
  have hEE : 0 < EE := Int.ofNat_lt.mpr (Nat.two_pow_pos _)
  have hs : val (mul (ofInt 16) x) + val 4602678819172646912 ≠ 0 := by exact fun u9 => lin [] [_, _, _, _, _, _] (.E 140737488355328 (.a (.v 3) (.v 5)) (.i 0) (.L 35184372088832 (.m 4 (.v 1)) (.a (.m 64 (.v 0)) (.v 2)) (.L 140737488355328 (.i 0) (.v 1) (.L 140737488355328 (.s (.m 16 (.v 0)) (.v 3)) (.m 8 (.v 4)) (.E 1 (.r (.r (.v 4) 8) 140737488355328) (.v 2) (.E (-70368744177664) (.r (.v 5) 2) (.v 2) (.L 35184372088831 (.a (.i 0) (.i 1)) (.v 2) .n))))))) (by kernel_rfl) u9 w2 hn0 d' hE hh hP
  have e11 : ((2 ^ 1080 : Nat) : Int) = PP * 64 := by decide +kernel
  obtain ⟨g1, g2, g3⟩ := sgn_near2 (r1 hs) (by
    have : ((val (mul (ofInt 16) x) + val 4602678819172646912).natAbs : Int) < ((2 ^ 1080 : Nat) : Int) := by rw [e11]; exact Int.not_le.mp (fun u9 => lin [_] [_, _, _, _, _, _] (.L 140737488355328 (.r (.v 2) 64) (.z (.v 0)) (.L 35184372088832 (.m 64 (.v 0)) (.a (.m 4 (.v 1)) (.v 2)) (.L 140737488355328 (.v 1) (.m 16 (.v 2)) (.L 140737488355328 (.s (.v 3) (.m 16 (.v 0))) (.m 8 (.v 4)) (.E 1 (.r (.r (.v 4) 8) 140737488355328) (.v 2) (.E 70368744177664 (.r (.v 5) 2) (.v 2) (.L 6649846324789247 (.a (.i 0) (.i 1)) (.v 2) (.E 140737488355328 (.z (.v 0)) (.a (.v 3) (.v 5)) .n)))))))) (by kernel_rfl) u9 w1 hnn u' hE hh hP (Int.natAbs_of_nonneg (Int.not_lt.mp (fun u9 => lin [] [_, _, _, _, _, _] (.L 140737488355328 (.a (.a (.v 3) (.v 5)) (.i 1)) (.i 0) (.L 35184372088832 (.m 4 (.v 1)) (.a (.m 64 (.v 0)) (.v 2)) (.L 140737488355328 (.i 0) (.v 1) (.L 140737488355328 (.s (.m 16 (.v 0)) (.v 3)) (.m 8 (.v 4)) (.E 1 (.r (.r (.v 4) 8) 140737488355328) (.v 2) (.E (-70368744177664) (.r (.v 5) 2) (.v 2) (.L 35184372088831 (.a (.i 0) (.i 1)) (.v 2) .n))))))) (by kernel_rfl) u9 w2 hn0 d' hE hh hP))))
    exact Int.ofNat_lt.mp this)
  refine ⟨⟨?_⟩, ?_⟩
  · obtain ⟨p, q, t, hd⟩ := g1
    unfold lampR isFinite
    rw [hd]
  · unfold lampI
    exact toInt_of g1 (by exact Int.not_lt.mp (fun u9 => lin [] [_, _, _, _, _, _, _] (.L 70368744177664 (.a (.v 6) (.i 1)) (.v 1) (.L 17592186044416 (.m 4 (.v 1)) (.a (.m 64 (.v 0)) (.v 2)) (.L 70368744177664 (.s (.m 16 (.v 0)) (.v 3)) (.m 8 (.v 4)) (.E 1 (.r (.r (.v 4) 8) 140737488355328) (.v 2) (.E (-35184372088832) (.r (.v 5) 2) (.v 2) (.L 70368744177664 (.s (.a (.v 3) (.v 5)) (.v 6)) (.m 8 (.v 4)) (.L 17592186044415 (.a (.i 0) (.i 1)) (.v 2) .n))))))) (by kernel_rfl) u9 w2 d' hE hh g3 hP)) (by rw [Int.add_mul]; exact Int.not_le.mp (fun u9 => lin [] [_, _, _, _, _, _, _] (.L 70368744177664 (.a (.v 1) (.m 1 (.v 2))) (.v 6) (.L 17592186044416 (.m 64 (.v 0)) (.a (.m 4 (.v 1)) (.v 2)) (.L 70368744177664 (.s (.v 3) (.m 16 (.v 0))) (.m 8 (.v 4)) (.E 1 (.r (.r (.v 4) 8) 140737488355328) (.v 2) (.E 35184372088832 (.r (.v 5) 2) (.v 2) (.L 70368744177664 (.s (.v 6) (.a (.v 3) (.v 5))) (.m 8 (.v 4)) (.L 17592186044415 (.a (.i 0) (.i 1)) (.v 2) .n))))))) (by kernel_rfl) u9 w1 u' hE hh g2 hP))
end
section
open PySem.Float64
theorem ap_to {S S' x v v' e e'} (h : Ap S x v e) (hs : S = S') (hv : v = v') (he : e ≤ e') : Ap S' x v' e' := by
  subst hs; subst hv
  have hP := Int.le_of_lt PP_pos
  have := Int.mul_le_mul_of_nonneg_right he hP
  exact ⟨h.fn, Int.le_trans h.up this, Int.le_trans h.dn this⟩
noncomputable def dot : List Int → List Int → Int
  | c :: cs, x :: xs => c * x + dot cs xs
  | _, _ => 0
noncomputable def addL : List Int → List Int → List Int
  | a :: r, b :: t => (a + b) :: addL r t
  | _, _ => []
noncomputable def smul (k : Int) (c : List Int) : List Int := c.map (k * ·)
theorem dot_smul (k : Int) : ∀ c X, dot (smul k c) X = k * dot c X
  | [], X => by simp [smul, dot]
  | a :: c, [] => by simp [smul, dot]
  | a :: c, x :: X => by
    have ih := dot_smul k c X
    unfold smul at ih ⊢
    simp only [List.map_cons, dot, ih, Int.mul_add, Int.mul_assoc]
theorem dot_add : ∀ c d X, c.length = d.length → dot (addL c d) X = dot c X + dot d X
  | [], [], X, _ => by simp [addL, dot]
  | [], _ :: _, X, h => by simp at h
  | _ :: _, [], X, h => by simp at h
  | a :: c, b :: d, [], _ => by simp [addL, dot]
  | a :: c, b :: d, x :: X, h => by
    have ih := dot_add c d X (by simpa using h)
    simp only [addL, dot, ih, Int.add_mul]
    exact linz [] [_, _, _, _] (.a (.a (.v 0) (.v 1)) (.a (.v 2) (.v 3))) (.a (.a (.v 0) (.v 2)) (.a (.v 1) (.v 3))) .n (by kernel_rfl)
/-- the greatest value within the bounds -/
noncomputable def top : List Int → List Int → Int
  | c :: cs, b :: bs => (if 0 ≤ c then c * b else 0) + top cs bs
  | _, _ => 0
noncomputable def InB (X B : List Int) : Prop := Paired (fun x b => 0 ≤ x ∧ x ≤ b) X B
theorem dot_top {X B : List Int} (h : InB X B) : ∀ c, dot c X ≤ top c B := by
  induction h with
  | nil => intro c; cases c <;> exact Int.le_refl _
  | cons hx _ ih =>
    intro c
    cases c with
    | nil => exact Int.le_refl _
    | cons a c =>
      have h1 := ih c
      show a * _ + dot c _ ≤ (if 0 ≤ a then a * _ else 0) + top c _
      by_cases ha : 0 ≤ a
      · rw [if_pos ha]
        have := Int.mul_le_mul_of_nonneg_left hx.2 ha
        exact Int.not_lt.mp (fun u9 => lin [] [_, _, _, _] (.L 1 (.a (.a (.v 3) (.v 1)) (.i 1)) (.a (.v 2) (.v 0)) (.L 1 (.v 0) (.v 1) (.L 1 (.v 2) (.v 3) .n))) (by kernel_rfl) u9 h1 this)
      · rw [if_neg ha]
        have : a * _ ≤ 0 := Int.mul_nonpos_of_nonpos_of_nonneg (by exact Int.not_lt.mp (fun u9 => lin [] [_] (.L 1 (.a (.i 0) (.i 1)) (.v 0) (.L 1 (.a (.v 0) (.i 1)) (.i 0) .n)) (by kernel_rfl) u9 (Int.not_le.mp ha))) hx.1
        exact Int.not_lt.mp (fun u9 => lin [] [_, _, _] (.L 1 (.a (.a (.i 0) (.v 1)) (.i 1)) (.a (.v 2) (.v 0)) (.L 1 (.v 0) (.v 1) (.L 1 (.v 2) (.i 0) .n))) (by kernel_rfl) u9 h1 this)
theorem dot_neg (c X) : dot (smul (-1) c) X = -dot c X := by rw [dot_smul]; exact linz [] [_] (.m (-1) (.v 0)) (.g (.v 0)) .n (by kernel_rfl)
theorem dot_bot {X B : List Int} (h : InB X B) (c) : -dot c X ≤ top (smul (-1) c) B := by rw [← dot_neg]; exact dot_top h _
noncomputable def okAdd (S k : Int) (c d r : List Int) (e f g : Int) (B : List Int) : Bool :=
  S == 1125899906842624 * k && (decide (0 < k) && (c.length == d.length && (r == addL c d && (decide (e + f + k ≤ g) && (decide (top r B + (e + f) ≤ 7 * S) && decide (top (smul (-1) r) B + (e + f) ≤ 7 * S))))))
theorem lf_add {S k x y c d r e f g X B} (hB : InB X B) (hx : Ap S x (dot c X) e) (hy : Ap S y (dot d X) f) (h : okAdd S k c d r e f g B = true) : Ap S (add x y) (dot r X) g := by
  unfold okAdd at h
  simp only [Bool.and_eq_true, beq_iff_eq, decide_eq_true_eq] at h
  obtain ⟨rfl, hk, hl, rfl, hg, h1, h2⟩ := h
  have t1 := dot_top hB (addL c d)
  have t2 := dot_bot hB (addL c d)
  rw [dot_add c d X hl] at t1 t2
  exact ap_to (ap_add hx hy hk (by exact Int.not_lt.mp (fun u9 => lin [] [_, _, _, _, _, _] (.L 1 (.a (.m 7 (.m 1125899906842624 (.v 3))) (.i 1)) (.a (.a (.v 4) (.v 5)) (.a (.v 1) (.v 2))) (.L 1 (.a (.v 0) (.a (.v 1) (.v 2))) (.m 7 (.m 1125899906842624 (.v 3))) (.L 1 (.a (.v 4) (.v 5)) (.v 0) .n))) (by kernel_rfl) u9 h1 t1)) (by exact Int.not_lt.mp (fun u9 => lin [] [_, _, _, _, _, _] (.L 1 (.a (.m 7 (.m 1125899906842624 (.v 3))) (.i 1)) (.a (.g (.a (.v 4) (.v 5))) (.a (.v 1) (.v 2))) (.L 1 (.a (.v 0) (.a (.v 1) (.v 2))) (.m 7 (.m 1125899906842624 (.v 3))) (.L 1 (.g (.a (.v 4) (.v 5))) (.v 0) .n))) (by kernel_rfl) u9 h2 t2))) rfl (dot_add c d X hl).symm hg
noncomputable def okSub (S k : Int) (c d r : List Int) (e f g : Int) (B : List Int) : Bool := okAdd S k c (smul (-1) d) r e f g B
theorem lf_sub {S k x y c d r e f g X B} (hB : InB X B) (hx : Ap S x (dot c X) e) (hy : Ap S y (dot d X) f) (h : okSub S k c d r e f g B = true) : Ap S (Float64.sub x y) (dot r X) g := by
  unfold okSub okAdd at h
  simp only [Bool.and_eq_true, beq_iff_eq, decide_eq_true_eq] at h
  obtain ⟨rfl, hk, hl, rfl, hg, h1, h2⟩ := h
  have t1 := dot_top hB (addL c (smul (-1) d))
  have t2 := dot_bot hB (addL c (smul (-1) d))
  have e1 := dot_add c (smul (-1) d) X hl
  rw [dot_neg] at e1
  rw [e1] at t1 t2
  exact ap_to (ap_sub hx hy hk (by exact Int.not_lt.mp (fun u9 => lin [] [_, _, _, _, _, _] (.L 1 (.a (.m 7 (.m 1125899906842624 (.v 3))) (.i 1)) (.a (.s (.v 4) (.v 5)) (.a (.v 1) (.v 2))) (.L 1 (.a (.v 0) (.a (.v 1) (.v 2))) (.m 7 (.m 1125899906842624 (.v 3))) (.L 1 (.a (.v 4) (.g (.v 5))) (.v 0) .n))) (by kernel_rfl) u9 h1 t1)) (by exact Int.not_lt.mp (fun u9 => lin [] [_, _, _, _, _, _] (.L 1 (.a (.m 7 (.m 1125899906842624 (.v 3))) (.i 1)) (.a (.g (.s (.v 4) (.v 5))) (.a (.v 1) (.v 2))) (.L 1 (.a (.v 0) (.a (.v 1) (.v 2))) (.m 7 (.m 1125899906842624 (.v 3))) (.L 1 (.g (.a (.v 4) (.g (.v 5)))) (.v 0) .n))) (by kernel_rfl) u9 h2 t2))) rfl (by rw [e1]; exact linz [] [_, _] (.s (.v 0) (.v 1)) (.a (.v 0) (.g (.v 1))) .n (by kernel_rfl)) hg
noncomputable def okMul (S T k C : Int) (c r : List Int) (e g S' : Int) (B : List Int) : Bool :=
  decide (0 ≤ C) && (decide (0 < S) && (decide (0 < T) && (S * T == 1125899906842624 * k && (S * T == S' && (r == smul C c && (decide (C * e + k ≤ g) && (decide (top r B + C * e ≤ 7 * (S * T)) && decide (top (smul (-1) r) B + C * e ≤ 7 * (S * T)))))))))
theorem lf_mul {S T k C x c r e g S' w X B} (hc : Fn w ∧ val w * T = C * PP) (hB : InB X B) (hx : Ap S x (dot c X) e) (h : okMul S T k C c r e g S' B = true) : Ap S' (mul w x) (dot r X) g := by
  unfold okMul at h
  simp only [Bool.and_eq_true, beq_iff_eq, decide_eq_true_eq] at h
  obtain ⟨hC, hS, hT, hk, rfl, rfl, hg, h1, h2⟩ := h
  have t1 := dot_top hB (smul C c)
  have t2 := dot_bot hB (smul C c)
  have e1 := dot_smul C c X
  rw [e1] at t1 t2
  have d1 : C * (dot c X + e) = C * dot c X + C * e := Int.mul_add _ _ _
  have d2 : C * (-dot c X + e) = -(C * dot c X) + C * e := by rw [Int.mul_add, Int.mul_neg]
  exact ap_to (ap_mul hc.1 hc.2 hx hC hS hT hk (by lia) (by lia)) rfl e1.symm hg
noncomputable def okUp (S T : Int) (c r : List Int) (e g S' : Int) : Bool := decide (0 ≤ T) && (S * T == S' && (r == smul T c && e * T == g))
theorem lf_up {S T x c r e g S' X} (hx : Ap S x (dot c X) e) (h : okUp S T c r e g S' = true) : Ap S' x (dot r X) g := by
  unfold okUp at h
  simp only [Bool.and_eq_true, beq_iff_eq, decide_eq_true_eq] at h
  obtain ⟨hT, rfl, rfl, rfl⟩ := h
  exact ap_to (ap_scale T hT hx) rfl (by rw [dot_smul, Int.mul_comm]) (Int.le_refl _)
theorem lf_neg {S x c r e X} (hx : Ap S x (dot c X) e) (h : r = smul (-1) c) : Ap S (neg x) (dot r X) e := ap_to (ap_neg hx) rfl (by rw [h, dot_neg]) (Int.le_refl _)
noncomputable def okPart (S k : Int) (c : List Int) (i n : Nat) : Bool := 16 * k == S && (decide (0 ≤ k) && c == (List.range n).map fun j => if j = i then k else 0)
theorem dot_unit (k : Int) : ∀ (X : List Int) (i s : Nat), dot ((List.range' s X.length).map fun j => if j = i + s then k else 0) X = k * X.getD i 0
  | [], i, s => by simp [dot]
  | x :: X, 0, s => by
    rw [List.length_cons, List.range'_succ, List.map_cons, dot, if_pos (by exact linn [_] [] (.v 0) (.a (.c 0) (.v 0)) .n (by kernel_rfl))]
    have : ∀ (X : List Int) (t : Nat), s < t → dot ((List.range' t X.length).map fun j => if j = 0 + s then k else 0) X = 0 := by
      intro X
      induction X with
      | nil => intro t _; rfl
      | cons y X ih =>
        intro t ht
        rw [List.length_cons, List.range'_succ, List.map_cons, dot, if_neg (by exact fun u9 => lin [_, _] [] (.e 1 (.v 1) (.a (.c 0) (.v 0)) (.l 1 (.a (.v 0) (.c 1)) (.v 1) .n)) (by kernel_rfl) u9 ht), ih (t + 1) (by exact Nat.not_le.mp (fun u9 => lin [_, _] [] (.l 1 (.a (.v 1) (.c 1)) (.v 0) (.l 1 (.a (.v 0) (.c 1)) (.v 1) .n)) (by kernel_rfl) u9 ht))]
        exact linz [] [_] (.a (.m 0 (.v 0)) (.i 0)) (.i 0) .n (by kernel_rfl)
    rw [this X (s + 1) (by exact Nat.not_le.mp (fun u9 => lin [_] [] (.l 1 (.a (.v 0) (.c 1)) (.v 0) .n) (by kernel_rfl) u9))]
    simp
  | x :: X, i + 1, s => by
    rw [List.length_cons, List.range'_succ, List.map_cons, dot, if_neg (by exact fun u9 => lin [_, _] [] (.e (-1) (.v 0) (.a (.a (.v 1) (.c 1)) (.v 0)) .n) (by kernel_rfl) u9)]
    have ih := dot_unit k X i (s + 1)
    rw [show i + (s + 1) = i + 1 + s by exact linn [_, _] [] (.a (.v 0) (.a (.v 1) (.c 1))) (.a (.a (.v 0) (.c 1)) (.v 1)) .n (by kernel_rfl)] at ih
    rw [ih]
    simp
theorem lf_part {S k c n X B} (i : Nat) (hB : InB X B) (hl : X.length = n) (h0 : 0 ≤ X.getD i 0 ∧ X.getD i 0 < 64) (h : okPart S k c i n = true) : Ap S (d16 (X.getD i 0)) (dot c X) 0 := by
  unfold okPart at h
  simp only [Bool.and_eq_true, beq_iff_eq, decide_eq_true_eq] at h
  obtain ⟨rfl, hk, rfl⟩ := h
  subst hl
  have := ap_scale k hk (ap_d16 h0.1 h0.2)
  have e := dot_unit k X i 0
  rw [← List.range_eq_range'] at e
  exact ap_to this rfl (by rw [Nat.add_zero] at e; rw [e, Int.mul_comm]) (by exact Int.not_lt.mp (fun u9 => lin [] [_] (.L 1 (.a (.i 0) (.i 1)) (.m 0 (.v 0)) .n) (by kernel_rfl) u9))
noncomputable def okEnd (S s : Int) (c c0 : List Int) (e d : Int) (B : List Int) : Bool :=
  16 * s == S && (decide (0 < s) && (decide (0 ≤ e) && (c.length == c0.length && (decide (top (addL c (smul (-s) c0)) B ≤ d) && (decide (top (smul (-1) (addL c (smul (-s) c0))) B ≤ d) && (decide (0 ≤ d) && decide (64 * (e + d) ≤ S)))))))
/-- a clamped part, known to a 64th of a 16th -/
theorem lf_end {S s x c c0 e d X B} (hB : InB X B) (hx : Ap S x (dot c X) e) (h : okEnd S s c c0 e d B = true) : OkF (clampF x) ∧ lampI (clampF x) = clampI 16 (dot c0 X) := by
  unfold okEnd at h
  simp only [Bool.and_eq_true, beq_iff_eq, decide_eq_true_eq] at h
  obtain ⟨rfl, hs, he, hl, h1, h2, hd, h3⟩ := h
  have e1 := dot_add c (smul (-s) c0) X (by rw [hl]; simp [smul])
  rw [dot_smul] at e1
  have t1 := dot_top hB (addL c (smul (-s) c0))
  have t2 := dot_bot hB (addL c (smul (-s) c0))
  rw [e1, Int.neg_mul] at t1 t2
  have m := ap_clamp (by exact Int.not_le.mp (fun u9 => lin [] [_] (.L 1 (.m 16 (.v 0)) (.i 0) (.L 16 (.a (.i 0) (.i 1)) (.v 0) .n)) (by kernel_rfl) u9 hs)) he hx
  generalize dot c0 X = n at *
  have hn : 0 ≤ clampI 16 n ∧ clampI 16 n ≤ 16 := by unfold clampI; split <;> (try split) <;> (first | exact ⟨Int.not_lt.mp (fun u9 => lin [] [] (.L 1 (.a (.i 0) (.i 1)) (.i 0) .n) (by kernel_rfl) u9), Int.not_lt.mp (fun u9 => lin [] [] (.L 1 (.a (.i 16) (.i 1)) (.i 0) .n) (by kernel_rfl) u9)⟩ | exact ⟨Int.not_lt.mp (fun u9 => lin [] [] (.L 1 (.a (.i 16) (.i 1)) (.i 0) .n) (by kernel_rfl) u9), Int.not_lt.mp (fun u9 => lin [] [] (.L 1 (.a (.i 16) (.i 1)) (.i 16) .n) (by kernel_rfl) u9)⟩ | (rename_i w0 w1; exact ⟨Int.not_lt.mp (fun u9 => lin [] [_] (.L 1 (.a (.v 0) (.i 1)) (.i 0) (.L 1 (.i 0) (.v 0) .n)) (by kernel_rfl) u9 (Int.not_lt.mp w0)), Int.not_lt.mp (fun u9 => lin [] [_] (.L 1 (.a (.i 16) (.i 1)) (.v 0) (.L 1 (.v 0) (.i 16) .n)) (by kernel_rfl) u9 (Int.not_lt.mp w1))⟩))
  have key : clampI (16 * s) (dot c X) - s * clampI 16 n ≤ d ∧ s * clampI 16 n - clampI (16 * s) (dot c X) ≤ d := by
    generalize dot c X = v at *
    unfold clampI
    by_cases n0 : n < 0
    · rw [if_pos n0, Int.mul_zero]
      have : s * n ≤ 0 := Int.mul_nonpos_of_nonneg_of_nonpos (by exact Int.not_lt.mp (fun u9 => lin [] [_] (.L 1 (.a (.v 0) (.i 1)) (.i 0) (.L 1 (.a (.i 0) (.i 1)) (.v 0) .n)) (by kernel_rfl) u9 hs)) (by exact Int.not_lt.mp (fun u9 => lin [] [_] (.L 1 (.a (.i 0) (.i 1)) (.v 0) (.L 1 (.a (.v 0) (.i 1)) (.i 0) .n)) (by kernel_rfl) u9 n0))
      split
      · exact ⟨Int.not_lt.mp (fun u9 => lin [] [_] (.L 1 (.a (.v 0) (.i 1)) (.i (0 - 0)) (.L 1 (.i 0) (.v 0) .n)) (by kernel_rfl) u9 hd), Int.not_lt.mp (fun u9 => lin [] [_] (.L 1 (.a (.v 0) (.i 1)) (.i (0 - 0)) (.L 1 (.i 0) (.v 0) .n)) (by kernel_rfl) u9 hd)⟩
      · split <;> (first | (rename_i w0 _; exact ⟨Int.not_lt.mp (fun u9 => lin [] [_, _, _, _] (.L 1 (.a (.v 1) (.i 1)) (.s (.v 2) (.i 0)) (.L 1 (.v 0) (.v 1) (.L 1 (.a (.v 2) (.g (.v 3))) (.v 0) (.L 1 (.v 3) (.i 0) .n)))) (by kernel_rfl) u9 h1 t1 this), Int.not_lt.mp (fun u9 => lin [] [_, _] (.L 1 (.a (.v 0) (.i 1)) (.s (.i 0) (.v 1)) (.L 1 (.i 0) (.v 0) (.L 1 (.i 0) (.v 1) .n))) (by kernel_rfl) u9 hd (Int.not_lt.mp w0))⟩) | (rename_i w0; exact ⟨Int.not_lt.mp (fun u9 => lin [] [_, _, _, _, _] (.L 1 (.a (.v 2) (.i 1)) (.s (.m 16 (.v 0)) (.i 0)) (.L 1 (.v 1) (.v 2) (.L 1 (.a (.v 3) (.g (.v 4))) (.v 1) (.L 1 (.v 4) (.i 0) (.L 1 (.a (.m 16 (.v 0)) (.i 1)) (.v 3) .n))))) (by kernel_rfl) u9 h1 t1 this w0), Int.not_lt.mp (fun u9 => lin [] [_, _, _, _, _, _] (.L 0 (.a (.v 3) (.i 1)) (.s (.i 0) (.m 16 (.v 0))) (.L 1008 (.a (.i 0) (.i 1)) (.v 0) (.L 64 (.i 0) (.v 1) (.L 64 (.v 2) (.v 3) (.L 1 (.m 64 (.a (.v 1) (.v 3))) (.m 16 (.v 0)) (.L 64 (.a (.v 4) (.g (.v 5))) (.v 2) (.L 64 (.v 5) (.i 0) (.L 64 (.a (.m 16 (.v 0)) (.i 1)) (.v 4) .n)))))))) (by kernel_rfl) u9 hs he h1 h3 t1 this w0)⟩))
    · rw [if_neg n0]
      have p0 : 0 ≤ s * n := Int.mul_nonneg (by exact Int.not_lt.mp (fun u9 => lin [] [_] (.L 1 (.a (.v 0) (.i 1)) (.i 0) (.L 1 (.a (.i 0) (.i 1)) (.v 0) .n)) (by kernel_rfl) u9 hs)) (by exact Int.not_lt.mp (fun u9 => lin [] [_] (.L 1 (.a (.v 0) (.i 1)) (.i 0) (.L 1 (.i 0) (.v 0) .n)) (by kernel_rfl) u9 (Int.not_lt.mp n0)))
      by_cases n1 : 16 < n
      · rw [if_pos n1]
        have : s * 16 ≤ s * n := Int.mul_le_mul_of_nonneg_left (by exact Int.not_lt.mp (fun u9 => lin [] [_] (.L 1 (.a (.v 0) (.i 1)) (.i 16) (.L 1 (.a (.i 16) (.i 1)) (.v 0) .n)) (by kernel_rfl) u9 n1)) (by exact Int.not_lt.mp (fun u9 => lin [] [_] (.L 1 (.a (.v 0) (.i 1)) (.i 0) (.L 1 (.a (.i 0) (.i 1)) (.v 0) .n)) (by kernel_rfl) u9 hs))
        split
        · (rename_i w0; exact ⟨Int.not_lt.mp (fun u9 => lin [] [_, _, _, _, _, _] (.L 0 (.a (.v 3) (.i 1)) (.s (.i 0) (.r (.v 0) 16)) (.L 1008 (.a (.i 0) (.i 1)) (.v 0) (.L 64 (.i 0) (.v 1) (.L 64 (.v 2) (.v 3) (.L 1 (.m 64 (.a (.v 1) (.v 3))) (.m 16 (.v 0)) (.L 64 (.g (.a (.v 4) (.g (.v 5)))) (.v 2) (.L 64 (.r (.v 0) 16) (.v 5) (.L 64 (.a (.v 4) (.i 1)) (.i 0) .n)))))))) (by kernel_rfl) u9 hs he h2 h3 t2 this w0), Int.not_lt.mp (fun u9 => lin [] [_, _, _, _, _] (.L 1 (.a (.v 2) (.i 1)) (.s (.r (.v 0) 16) (.i 0)) (.L 1 (.v 1) (.v 2) (.L 1 (.g (.a (.v 3) (.g (.v 4)))) (.v 1) (.L 1 (.r (.v 0) 16) (.v 4) (.L 1 (.a (.v 3) (.i 1)) (.i 0) .n))))) (by kernel_rfl) u9 h2 t2 this w0)⟩)
        · split <;> (first | exact ⟨Int.not_lt.mp (fun u9 => lin [] [_, _] (.L 1 (.a (.v 0) (.i 1)) (.s (.m 16 (.v 1)) (.r (.v 1) 16)) (.L 1 (.i 0) (.v 0) .n)) (by kernel_rfl) u9 hd), Int.not_lt.mp (fun u9 => lin [] [_, _] (.L 1 (.a (.v 0) (.i 1)) (.s (.r (.v 1) 16) (.m 16 (.v 1))) (.L 1 (.i 0) (.v 0) .n)) (by kernel_rfl) u9 hd)⟩ | (rename_i w0; exact ⟨Int.not_lt.mp (fun u9 => lin [] [_, _, _] (.L 1 (.a (.v 0) (.i 1)) (.s (.v 1) (.r (.v 2) 16)) (.L 1 (.i 0) (.v 0) (.L 1 (.v 1) (.m 16 (.v 2)) .n))) (by kernel_rfl) u9 hd (Int.not_lt.mp w0)), Int.not_lt.mp (fun u9 => lin [] [_, _, _, _, _] (.L 1 (.a (.v 1) (.i 1)) (.s (.r (.v 4) 16) (.v 2)) (.L 1 (.v 0) (.v 1) (.L 1 (.g (.a (.v 2) (.g (.v 3)))) (.v 0) (.L 1 (.r (.v 4) 16) (.v 3) .n)))) (by kernel_rfl) u9 h2 t2 this)⟩))
      · rw [if_neg n1]
        have : s * n ≤ s * 16 := Int.mul_le_mul_of_nonneg_left (by exact Int.not_lt.mp (fun u9 => lin [] [_] (.L 1 (.a (.i 16) (.i 1)) (.v 0) (.L 1 (.v 0) (.i 16) .n)) (by kernel_rfl) u9 (Int.not_lt.mp n1))) (by exact Int.not_lt.mp (fun u9 => lin [] [_] (.L 1 (.a (.v 0) (.i 1)) (.i 0) (.L 1 (.a (.i 0) (.i 1)) (.v 0) .n)) (by kernel_rfl) u9 hs))
        split
        · (rename_i w0; exact ⟨Int.not_lt.mp (fun u9 => lin [] [_, _, _, _] (.L 1 (.a (.v 1) (.i 1)) (.s (.i 0) (.v 3)) (.L 1 (.v 0) (.v 1) (.L 1 (.g (.a (.v 2) (.g (.v 3)))) (.v 0) (.L 2 (.i 0) (.v 3) (.L 1 (.a (.v 2) (.i 1)) (.i 0) .n))))) (by kernel_rfl) u9 h2 t2 p0 w0), Int.not_lt.mp (fun u9 => lin [] [_, _, _, _] (.L 1 (.a (.v 1) (.i 1)) (.s (.v 3) (.i 0)) (.L 1 (.v 0) (.v 1) (.L 1 (.g (.a (.v 2) (.g (.v 3)))) (.v 0) (.L 1 (.a (.v 2) (.i 1)) (.i 0) .n)))) (by kernel_rfl) u9 h2 t2 w0)⟩)
        · split <;> (first | exact ⟨Int.not_lt.mp (fun u9 => lin [] [_, _, _, _] (.L 1 (.a (.v 1) (.i 1)) (.s (.v 2) (.v 3)) (.L 1 (.v 0) (.v 1) (.L 1 (.a (.v 2) (.g (.v 3))) (.v 0) .n))) (by kernel_rfl) u9 h1 t1), Int.not_lt.mp (fun u9 => lin [] [_, _, _, _] (.L 1 (.a (.v 0) (.i 1)) (.s (.v 3) (.v 2)) (.L 1 (.v 1) (.v 0) (.L 1 (.g (.a (.v 2) (.g (.v 3)))) (.v 1) .n))) (by kernel_rfl) u9 h2 t2)⟩ | (rename_i w0; exact ⟨Int.not_lt.mp (fun u9 => lin [] [_, _, _, _, _] (.L 1 (.a (.v 1) (.i 1)) (.s (.m 16 (.v 4)) (.v 3)) (.L 1 (.v 0) (.v 1) (.L 1 (.a (.v 2) (.g (.v 3))) (.v 0) (.L 1 (.a (.m 16 (.v 4)) (.i 1)) (.v 2) .n)))) (by kernel_rfl) u9 h1 t1 w0), Int.not_lt.mp (fun u9 => lin [] [_, _, _, _, _] (.L 1 (.a (.v 1) (.i 1)) (.s (.v 3) (.m 16 (.v 4))) (.L 1 (.v 0) (.v 1) (.L 1 (.a (.v 2) (.g (.v 3))) (.v 0) (.L 2 (.v 3) (.r (.v 4) 16) (.L 1 (.a (.m 16 (.v 4)) (.i 1)) (.v 2) .n))))) (by kernel_rfl) u9 h1 t1 this w0)⟩))
  have en : ((clampI 16 n).toNat : Int) = clampI 16 n := by exact linz [_] [_] (.z (.v 0)) (.v 0) (.E (-1) (.z (.v 0)) (.v 0) .n) (by kernel_rfl) (Int.toNat_of_nonneg (Int.not_lt.mp (fun u9 => lin [] [_] (.L 1 (.a (.v 0) (.i 1)) (.i 0) (.L 1 (.i 0) (.v 0) .n)) (by kernel_rfl) u9 hn.1)))
  have q : 4 * clampI 16 n * (16 * s) = 64 * (s * clampI 16 n) := by
    rw [show 4 * clampI 16 n * (16 * s) = 4 * 16 * (s * clampI 16 n) by ac_rfl]; exact linz [] [_] (.m (4 * 16) (.v 0)) (.m 64 (.v 0)) .n (by kernel_rfl)
  have := lamp_of (n := (clampI 16 n).toNat) (by exact Int.not_le.mp (fun u9 => lin [] [_] (.L 1 (.m 16 (.v 0)) (.i 0) (.L 16 (.a (.i 0) (.i 1)) (.v 0) .n)) (by kernel_rfl) u9 hs)) m (by exact Nat.not_lt.mp (fun u9 => lin [_] [_] (.l 1 (.a (.c 16) (.c 1)) (.v 0) (.L 1 (.v 0) (.i 16) (.E 1 (.z (.v 0)) (.v 0) .n))) (by kernel_rfl) u9 hn.2 (Int.toNat_of_nonneg (Int.not_lt.mp (fun u9 => lin [_] [_] (.L 1 (.a (.v 0) (.i 1)) (.i 0) (.E 1 (.z (.v 0)) (.v 0) .n)) (by kernel_rfl) u9 (Int.toNat_of_nonneg (Int.not_lt.mp (fun u9 => lin [_] [_] (.L 1 (.a (.v 0) (.i 1)) (.i 0) (.E 1 (.z (.v 0)) (.v 0) .n)) (by kernel_rfl) u9 en)))))))) (by rw [en, q]; exact Int.not_lt.mp (fun u9 => lin [] [_, _, _, _, _] (.L 1 (.a (.a (.m 64 (.v 4)) (.m 16 (.v 2))) (.i 1)) (.m 64 (.a (.v 3) (.v 0))) (.L 1 (.m 64 (.a (.v 0) (.v 1))) (.m 16 (.v 2)) (.L 64 (.s (.v 3) (.v 4)) (.v 1) .n))) (by kernel_rfl) u9 h3 key.1)) (by rw [en, q]; exact Int.not_lt.mp (fun u9 => lin [] [_, _, _, _, _] (.L 1 (.a (.a (.m 64 (.s (.v 3) (.v 0))) (.m 16 (.v 2))) (.i 1)) (.m 64 (.v 4)) (.L 1 (.m 64 (.a (.v 0) (.v 1))) (.m 16 (.v 2)) (.L 64 (.s (.v 4) (.v 3)) (.v 1) .n))) (by kernel_rfl) u9 h3 key.2))
  rw [en] at this
  exact this
theorem k_c30 : Fn 4599075939470750515 ∧ val 4599075939470750515 * 1152921504606846976 = 345876451382054080 * PP := ⟨fn_of (by decide +kernel), by decide +kernel⟩
theorem k_c59 : Fn 4603489467105573601 ∧ val 4603489467105573601 * 1152921504606846976 = 680223687718039680 * PP := ⟨fn_of (by decide +kernel), by decide +kernel⟩
theorem k_c11 : Fn 4592590756007337001 ∧ val 4592590756007337001 * 1152921504606846976 = 126821365506753168 * PP := ⟨fn_of (by decide +kernel), by decide +kernel⟩
theorem k_c74 : Fn 4604840546993784750 ∧ val 4604840546993784750 * 1152921504606846976 = 853161913409066752 * PP := ⟨fn_of (by decide +kernel), by decide +kernel⟩
theorem k_c27 : Fn 4598535507515466056 ∧ val 4598535507515466056 * 1152921504606846976 = 311288806243848704 * PP := ⟨fn_of (by decide +kernel), by decide +kernel⟩
theorem k_c48 : Fn 4602318531202457272 ∧ val 4602318531202457272 * 1152921504606846976 = 553402322211286528 * PP := ⟨fn_of (by decide +kernel), by decide +kernel⟩
theorem k_c41 : Fn 4601057523306793533 ∧ val 4601057523306793533 * 1152921504606846976 = 472697816888807232 * PP := ⟨fn_of (by decide +kernel), by decide +kernel⟩
theorem k_R1 : Fn 4606703976345377586 ∧ val 4606703976345377586 * 1152921504606846976 = 1091680870412949760 * PP := ⟨fn_of (by decide +kernel), by decide +kernel⟩
theorem k_R2 : Fn 4603791717925830846 ∧ val 4603791717925830846 * 1152921504606846976 = 718911792710967040 * PP := ⟨fn_of (by decide +kernel), by decide +kernel⟩
theorem k_G1 : Fn 4598621754083818298 ∧ val 4598621754083818298 * 1152921504606846976 = 316808586618392192 * PP := ⟨fn_of (by decide +kernel), by decide +kernel⟩
theorem k_G2 : Fn 4603901015759978483 ∧ val 4603901015759978483 * 1152921504606846976 = 732901915481864576 * PP := ⟨fn_of (by decide +kernel), by decide +kernel⟩
theorem k_B1 : Fn 4607671262177584182 ∧ val 4607671262177584182 * 1152921504606846976 = 1278065409263941120 * PP := ⟨fn_of (by decide +kernel), by decide +kernel⟩
theorem k_B2 : Fn 4610375502138591871 ∧ val 4610375502138591871 * 1152921504606846976 = 1970350839281909504 * PP := ⟨fn_of (by decide +kernel), by decide +kernel⟩
theorem in_get {a0 a1 a2 b0 b1 b2 g : Int} (h0 : 0 ≤ a0 ∧ a0 ≤ 16) (h1 : 0 ≤ a1 ∧ a1 ≤ 16) (h2 : 0 ≤ a2 ∧ a2 ≤ 16) (k0 : 0 ≤ b0 ∧ b0 ≤ 16) (k1 : 0 ≤ b1 ∧ b1 ≤ 16) (k2 : 0 ≤ b2 ∧ b2 ≤ 16) (hg : 0 ≤ g ∧ g ≤ 48) : ∀ i, i < 7 → 0 ≤ [a0, a1, a2, b0, b1, b2, g].getD i 0 ∧ [a0, a1, a2, b0, b1, b2, g].getD i 0 < 64 := by
  intro i hi
  match i, hi with
  | 0, _ => exact ⟨h0.1, Int.lt_of_le_of_lt h0.2 (by decide)⟩
  | 1, _ => exact ⟨h1.1, Int.lt_of_le_of_lt h1.2 (by decide)⟩
  | 2, _ => exact ⟨h2.1, Int.lt_of_le_of_lt h2.2 (by decide)⟩
  | 3, _ => exact ⟨k0.1, Int.lt_of_le_of_lt k0.2 (by decide)⟩
  | 4, _ => exact ⟨k1.1, Int.lt_of_le_of_lt k1.2 (by decide)⟩
  | 5, _ => exact ⟨k2.1, Int.lt_of_le_of_lt k2.2 (by decide)⟩
  | 6, _ => exact ⟨hg.1, Int.lt_of_le_of_lt hg.2 (by decide)⟩
theorem ap_ya {X : List Int} (hB : InB X [16, 16, 16, 16, 16, 16, 48]) (hl : X.length = 7) (hp : ∀ i, i < 7 → 0 ≤ X.getD i 0 ∧ X.getD i 0 < 64) : Ap 1329227995784915872903807060280344576 (yY (d16 (X.getD 0 0)) (d16 (X.getD 1 0)) (d16 (X.getD 2 0))) (dot [24923024920967171694609178694778880, 49015282344568770230783715028500480, 9138442471021296672330533723701248, 0, 0, 0, 0] X) 5902958103587056517120 := by
  unfold yY
  have m1 : Ap 1152921504606846976 (d16 _) (dot [72057594037927936, 0, 0, 0, 0, 0, 0] X) 0 := lf_part (k := 72057594037927936) 0 hB hl (hp 0 (by decide)) (by decide +kernel)
  have m2 : Ap 1152921504606846976 (d16 _) (dot [0, 72057594037927936, 0, 0, 0, 0, 0] X) 0 := lf_part (k := 72057594037927936) 1 hB hl (hp 1 (by decide)) (by decide +kernel)
  have m3 : Ap 1152921504606846976 (d16 _) (dot [0, 0, 72057594037927936, 0, 0, 0, 0] X) 0 := lf_part (k := 72057594037927936) 2 hB hl (hp 2 (by decide)) (by decide +kernel)
  have m4 : Ap 1329227995784915872903807060280344576 _ (dot [24923024920967171694609178694778880, 0, 0, 0, 0, 0, 0] X) 1180591620717411303424 := lf_mul (T := 1152921504606846976) (k := 1180591620717411303424) k_c30 hB m1 (by decide +kernel)
  have m5 : Ap 1329227995784915872903807060280344576 _ (dot [0, 49015282344568770230783715028500480, 0, 0, 0, 0, 0] X) 1180591620717411303424 := lf_mul (T := 1152921504606846976) (k := 1180591620717411303424) k_c59 hB m2 (by decide +kernel)
  have m6 : Ap 1329227995784915872903807060280344576 _ (dot [24923024920967171694609178694778880, 49015282344568770230783715028500480, 0, 0, 0, 0, 0] X) 3541774862152233910272 := lf_add (k := 1180591620717411303424) hB m4 m5 (by decide +kernel)
  have m7 : Ap 1329227995784915872903807060280344576 _ (dot [0, 0, 9138442471021296672330533723701248, 0, 0, 0, 0] X) 1180591620717411303424 := lf_mul (T := 1152921504606846976) (k := 1180591620717411303424) k_c11 hB m3 (by decide +kernel)
  have m8 : Ap 1329227995784915872903807060280344576 _ (dot [24923024920967171694609178694778880, 49015282344568770230783715028500480, 9138442471021296672330533723701248, 0, 0, 0, 0] X) 5902958103587056517120 := lf_add (k := 1180591620717411303424) hB m6 m7 (by decide +kernel)
  exact m8
theorem ap_ia {X : List Int} (hB : InB X [16, 16, 16, 16, 16, 16, 48]) (hl : X.length = 7) (hp : ∀ i, i < 7 → 0 ≤ X.getD i 0 ∧ X.getD i 0 < 64) : Ap 1532495540865888858358347027150309183618739122183602176 (yI (d16 (X.getD 0 0)) (d16 (X.getD 1 0)) (d16 (X.getD 2 0))) (dot [57372801811166714549509751513833424073515451476344832, -26560063342631933371262394326786743555788473672663040, -30812738468534779304035883130315405976604887375413248, 0, 0, 0, 0] X) 12331832977214809988448244950205030465536 := by
  unfold yI
  have m1 : Ap 1329227995784915872903807060280344576 (d16 _) (dot [83076749736557242056487941267521536, 0, 0, 0, 0, 0, 0] X) 0 := lf_part (k := 83076749736557242056487941267521536) 0 hB hl (hp 0 (by decide)) (by decide +kernel)
  have m2 := ap_ya hB hl hp
  have m3 : Ap 1329227995784915872903807060280344576 _ (dot [58153724815590070361878762572742656, -49015282344568770230783715028500480, -9138442471021296672330533723701248, 0, 0, 0, 0] X) 7083549724304467820544 := lf_sub (k := 1180591620717411303424) hB m1 m2 (by decide +kernel)
  have m4 : Ap 1532495540865888858358347027150309183618739122183602176 _ (dot [49614543135533151980760316397019136073071930021773312, -41817972071377939517208577481903303759420518784040960, -7796571064155209512665588272602629884948358937706496, 0, 0, 0, 0] X) 7404544304199620892427482280837525798912 := lf_mul (T := 1152921504606846976) (k := 1361129467683753853853498429727072845824) k_c74 hB m3 (by decide +kernel)
  have m5 : Ap 1329227995784915872903807060280344576 (d16 _) (dot [0, 0, 83076749736557242056487941267521536, 0, 0, 0, 0] X) 0 := lf_part (k := 83076749736557242056487941267521536) 2 hB hl (hp 2 (by decide)) (by decide +kernel)
  have m6 := ap_ya hB hl hp
  have m7 : Ap 1329227995784915872903807060280344576 _ (dot [-24923024920967171694609178694778880, -49015282344568770230783715028500480, 73938307265535945384157407543820288, 0, 0, 0, 0] X) 7083549724304467820544 := lf_sub (k := 1180591620717411303424) hB m5 m6 (by decide +kernel)
  have m8 : Ap 1532495540865888858358347027150309183618739122183602176 _ (dot [-7758258675633562568749435116814288000443521454571520, -15257908728746006145946183155116560203632045111377920, 23016167404379569791370294857712776091656528437706752, 0, 0, 0, 0] X) 3566159205331435242167264239640431820800 := lf_mul (T := 1152921504606846976) (k := 1361129467683753853853498429727072845824) k_c27 hB m7 (by decide +kernel)
  have m9 : Ap 1532495540865888858358347027150309183618739122183602176 _ (dot [57372801811166714549509751513833424073515451476344832, -26560063342631933371262394326786743555788473672663040, -30812738468534779304035883130315405976604887375413248, 0, 0, 0, 0] X) 12331832977214809988448244950205030465536 := lf_sub (k := 1361129467683753853853498429727072845824) hB m4 m8 (by decide +kernel)
  exact m9
theorem ap_qa {X : List Int} (hB : InB X [16, 16, 16, 16, 16, 16, 48]) (hl : X.length = 7) (hp : ∀ i, i < 7 → 0 ≤ X.getD i 0 ∧ X.getD i 0 < 64) : Ap 1532495540865888858358347027150309183618739122183602176 (yQ (d16 (X.getD 0 0)) (d16 (X.getD 1 0)) (d16 (X.getD 2 0))) (dot [20401346887777145884149925348949506423352506038878208, -50294588031792384936195735860655941273537840205004800, 29893241144015242601084559257431647269044232883535872, 0, 0, 0, 0] X) 11351819760482506796594318313754472742912 := by
  unfold yQ
  have m1 : Ap 1329227995784915872903807060280344576 (d16 _) (dot [83076749736557242056487941267521536, 0, 0, 0, 0, 0, 0] X) 0 := lf_part (k := 83076749736557242056487941267521536) 0 hB hl (hp 0 (by decide)) (by decide +kernel)
  have m2 := ap_ya hB hl hp
  have m3 : Ap 1329227995784915872903807060280344576 _ (dot [58153724815590070361878762572742656, -49015282344568770230783715028500480, -9138442471021296672330533723701248, 0, 0, 0, 0] X) 7083549724304467820544 := lf_sub (k := 1180591620717411303424) hB m1 m2 (by decide +kernel)
  have m4 : Ap 1532495540865888858358347027150309183618739122183602176 _ (dot [32182406358183665344960553728279547039778375223738368, -27125171073326230359923818895850511677427847465533440, -5057235284857433070948420902150249216365603999186944, 0, 0, 0, 0] X) 5281182334612964807880475553585541677056 := lf_mul (T := 1152921504606846976) (k := 1361129467683753853853498429727072845824) k_c48 hB m3 (by decide +kernel)
  have m5 : Ap 1329227995784915872903807060280344576 (d16 _) (dot [0, 0, 83076749736557242056487941267521536, 0, 0, 0, 0] X) 0 := lf_part (k := 83076749736557242056487941267521536) 2 hB hl (hp 2 (by decide)) (by decide +kernel)
  have m6 := ap_ya hB hl hp
  have m7 : Ap 1329227995784915872903807060280344576 _ (dot [-24923024920967171694609178694778880, -49015282344568770230783715028500480, 73938307265535945384157407543820288, 0, 0, 0, 0] X) 7083549724304467820544 := lf_sub (k := 1180591620717411303424) hB m5 m6 (by decide +kernel)
  have m8 : Ap 1532495540865888858358347027150309183618739122183602176 _ (dot [-11781059470406519460810628379330040616425869184860160, -23169416958466154576271916964805429596109992739471360, 34950476428872675672032980159581896485409836882722816, 0, 0, 0, 0] X) 4709507958185788134860344330441858220032 := lf_mul (T := 1152921504606846976) (k := 1361129467683753853853498429727072845824) k_c41 hB m7 (by decide +kernel)
  have m9 : Ap 1532495540865888858358347027150309183618739122183602176 _ (dot [20401346887777145884149925348949506423352506038878208, -50294588031792384936195735860655941273537840205004800, 29893241144015242601084559257431647269044232883535872, 0, 0, 0, 0] X) 11351819760482506796594318313754472742912 := lf_add (k := 1361129467683753853853498429727072845824) hB m4 m8 (by decide +kernel)
  exact m9
theorem ap_yb {X : List Int} (hB : InB X [16, 16, 16, 16, 16, 16, 48]) (hl : X.length = 7) (hp : ∀ i, i < 7 → 0 ≤ X.getD i 0 ∧ X.getD i 0 < 64) : Ap 1329227995784915872903807060280344576 (yY (d16 (X.getD 3 0)) (d16 (X.getD 4 0)) (d16 (X.getD 5 0))) (dot [0, 0, 0, 24923024920967171694609178694778880, 49015282344568770230783715028500480, 9138442471021296672330533723701248, 0] X) 5902958103587056517120 := by
  unfold yY
  have m1 : Ap 1152921504606846976 (d16 _) (dot [0, 0, 0, 72057594037927936, 0, 0, 0] X) 0 := lf_part (k := 72057594037927936) 3 hB hl (hp 3 (by decide)) (by decide +kernel)
  have m2 : Ap 1152921504606846976 (d16 _) (dot [0, 0, 0, 0, 72057594037927936, 0, 0] X) 0 := lf_part (k := 72057594037927936) 4 hB hl (hp 4 (by decide)) (by decide +kernel)
  have m3 : Ap 1152921504606846976 (d16 _) (dot [0, 0, 0, 0, 0, 72057594037927936, 0] X) 0 := lf_part (k := 72057594037927936) 5 hB hl (hp 5 (by decide)) (by decide +kernel)
  have m4 : Ap 1329227995784915872903807060280344576 _ (dot [0, 0, 0, 24923024920967171694609178694778880, 0, 0, 0] X) 1180591620717411303424 := lf_mul (T := 1152921504606846976) (k := 1180591620717411303424) k_c30 hB m1 (by decide +kernel)
  have m5 : Ap 1329227995784915872903807060280344576 _ (dot [0, 0, 0, 0, 49015282344568770230783715028500480, 0, 0] X) 1180591620717411303424 := lf_mul (T := 1152921504606846976) (k := 1180591620717411303424) k_c59 hB m2 (by decide +kernel)
  have m6 : Ap 1329227995784915872903807060280344576 _ (dot [0, 0, 0, 24923024920967171694609178694778880, 49015282344568770230783715028500480, 0, 0] X) 3541774862152233910272 := lf_add (k := 1180591620717411303424) hB m4 m5 (by decide +kernel)
  have m7 : Ap 1329227995784915872903807060280344576 _ (dot [0, 0, 0, 0, 0, 9138442471021296672330533723701248, 0] X) 1180591620717411303424 := lf_mul (T := 1152921504606846976) (k := 1180591620717411303424) k_c11 hB m3 (by decide +kernel)
  have m8 : Ap 1329227995784915872903807060280344576 _ (dot [0, 0, 0, 24923024920967171694609178694778880, 49015282344568770230783715028500480, 9138442471021296672330533723701248, 0] X) 5902958103587056517120 := lf_add (k := 1180591620717411303424) hB m6 m7 (by decide +kernel)
  exact m8
theorem ap_ib {X : List Int} (hB : InB X [16, 16, 16, 16, 16, 16, 48]) (hl : X.length = 7) (hp : ∀ i, i < 7 → 0 ≤ X.getD i 0 ∧ X.getD i 0 < 64) : Ap 1532495540865888858358347027150309183618739122183602176 (yI (d16 (X.getD 3 0)) (d16 (X.getD 4 0)) (d16 (X.getD 5 0))) (dot [0, 0, 0, 57372801811166714549509751513833424073515451476344832, -26560063342631933371262394326786743555788473672663040, -30812738468534779304035883130315405976604887375413248, 0] X) 12331832977214809988448244950205030465536 := by
  unfold yI
  have m1 : Ap 1329227995784915872903807060280344576 (d16 _) (dot [0, 0, 0, 83076749736557242056487941267521536, 0, 0, 0] X) 0 := lf_part (k := 83076749736557242056487941267521536) 3 hB hl (hp 3 (by decide)) (by decide +kernel)
  have m2 := ap_yb hB hl hp
  have m3 : Ap 1329227995784915872903807060280344576 _ (dot [0, 0, 0, 58153724815590070361878762572742656, -49015282344568770230783715028500480, -9138442471021296672330533723701248, 0] X) 7083549724304467820544 := lf_sub (k := 1180591620717411303424) hB m1 m2 (by decide +kernel)
  have m4 : Ap 1532495540865888858358347027150309183618739122183602176 _ (dot [0, 0, 0, 49614543135533151980760316397019136073071930021773312, -41817972071377939517208577481903303759420518784040960, -7796571064155209512665588272602629884948358937706496, 0] X) 7404544304199620892427482280837525798912 := lf_mul (T := 1152921504606846976) (k := 1361129467683753853853498429727072845824) k_c74 hB m3 (by decide +kernel)
  have m5 : Ap 1329227995784915872903807060280344576 (d16 _) (dot [0, 0, 0, 0, 0, 83076749736557242056487941267521536, 0] X) 0 := lf_part (k := 83076749736557242056487941267521536) 5 hB hl (hp 5 (by decide)) (by decide +kernel)
  have m6 := ap_yb hB hl hp
  have m7 : Ap 1329227995784915872903807060280344576 _ (dot [0, 0, 0, -24923024920967171694609178694778880, -49015282344568770230783715028500480, 73938307265535945384157407543820288, 0] X) 7083549724304467820544 := lf_sub (k := 1180591620717411303424) hB m5 m6 (by decide +kernel)
  have m8 : Ap 1532495540865888858358347027150309183618739122183602176 _ (dot [0, 0, 0, -7758258675633562568749435116814288000443521454571520, -15257908728746006145946183155116560203632045111377920, 23016167404379569791370294857712776091656528437706752, 0] X) 3566159205331435242167264239640431820800 := lf_mul (T := 1152921504606846976) (k := 1361129467683753853853498429727072845824) k_c27 hB m7 (by decide +kernel)
  have m9 : Ap 1532495540865888858358347027150309183618739122183602176 _ (dot [0, 0, 0, 57372801811166714549509751513833424073515451476344832, -26560063342631933371262394326786743555788473672663040, -30812738468534779304035883130315405976604887375413248, 0] X) 12331832977214809988448244950205030465536 := lf_sub (k := 1361129467683753853853498429727072845824) hB m4 m8 (by decide +kernel)
  exact m9
theorem ap_qb {X : List Int} (hB : InB X [16, 16, 16, 16, 16, 16, 48]) (hl : X.length = 7) (hp : ∀ i, i < 7 → 0 ≤ X.getD i 0 ∧ X.getD i 0 < 64) : Ap 1532495540865888858358347027150309183618739122183602176 (yQ (d16 (X.getD 3 0)) (d16 (X.getD 4 0)) (d16 (X.getD 5 0))) (dot [0, 0, 0, 20401346887777145884149925348949506423352506038878208, -50294588031792384936195735860655941273537840205004800, 29893241144015242601084559257431647269044232883535872, 0] X) 11351819760482506796594318313754472742912 := by
  unfold yQ
  have m1 : Ap 1329227995784915872903807060280344576 (d16 _) (dot [0, 0, 0, 83076749736557242056487941267521536, 0, 0, 0] X) 0 := lf_part (k := 83076749736557242056487941267521536) 3 hB hl (hp 3 (by decide)) (by decide +kernel)
  have m2 := ap_yb hB hl hp
  have m3 : Ap 1329227995784915872903807060280344576 _ (dot [0, 0, 0, 58153724815590070361878762572742656, -49015282344568770230783715028500480, -9138442471021296672330533723701248, 0] X) 7083549724304467820544 := lf_sub (k := 1180591620717411303424) hB m1 m2 (by decide +kernel)
  have m4 : Ap 1532495540865888858358347027150309183618739122183602176 _ (dot [0, 0, 0, 32182406358183665344960553728279547039778375223738368, -27125171073326230359923818895850511677427847465533440, -5057235284857433070948420902150249216365603999186944, 0] X) 5281182334612964807880475553585541677056 := lf_mul (T := 1152921504606846976) (k := 1361129467683753853853498429727072845824) k_c48 hB m3 (by decide +kernel)
  have m5 : Ap 1329227995784915872903807060280344576 (d16 _) (dot [0, 0, 0, 0, 0, 83076749736557242056487941267521536, 0] X) 0 := lf_part (k := 83076749736557242056487941267521536) 5 hB hl (hp 5 (by decide)) (by decide +kernel)
  have m6 := ap_yb hB hl hp
  have m7 : Ap 1329227995784915872903807060280344576 _ (dot [0, 0, 0, -24923024920967171694609178694778880, -49015282344568770230783715028500480, 73938307265535945384157407543820288, 0] X) 7083549724304467820544 := lf_sub (k := 1180591620717411303424) hB m5 m6 (by decide +kernel)
  have m8 : Ap 1532495540865888858358347027150309183618739122183602176 _ (dot [0, 0, 0, -11781059470406519460810628379330040616425869184860160, -23169416958466154576271916964805429596109992739471360, 34950476428872675672032980159581896485409836882722816, 0] X) 4709507958185788134860344330441858220032 := lf_mul (T := 1152921504606846976) (k := 1361129467683753853853498429727072845824) k_c41 hB m7 (by decide +kernel)
  have m9 : Ap 1532495540865888858358347027150309183618739122183602176 _ (dot [0, 0, 0, 20401346887777145884149925348949506423352506038878208, -50294588031792384936195735860655941273537840205004800, 29893241144015242601084559257431647269044232883535872, 0] X) 11351819760482506796594318313754472742912 := lf_add (k := 1361129467683753853853498429727072845824) hB m4 m8 (by decide +kernel)
  exact m9
theorem lk_y {X : List Int} (hB : InB X [16, 16, 16, 16, 16, 16, 48]) (hl : X.length = 7) (hp : ∀ i, i < 7 → 0 ≤ X.getD i 0 ∧ X.getD i 0 < 64) : Ap 1329227995784915872903807060280344576 (lkY (X.getD 0 0) (X.getD 1 0) (X.getD 2 0) (X.getD 3 0) (X.getD 4 0) (X.getD 5 0) (X.getD 6 0)) (dot [-24923024920967171694609178694778880, -49015282344568770230783715028500480, -9138442471021296672330533723701248, -24923024920967171694609178694778880, -49015282344568770230783715028500480, -9138442471021296672330533723701248, 83076749736557242056487941267521536] X) 14167099448608935641088 := by
  unfold lkY
  have m1 : Ap 1329227995784915872903807060280344576 (d16 _) (dot [0, 0, 0, 0, 0, 0, 83076749736557242056487941267521536] X) 0 := lf_part (k := 83076749736557242056487941267521536) 6 hB hl (hp 6 (by decide)) (by decide +kernel)
  have m2 := ap_ya hB hl hp
  have m3 : Ap 1329227995784915872903807060280344576 _ (dot [-24923024920967171694609178694778880, -49015282344568770230783715028500480, -9138442471021296672330533723701248, 0, 0, 0, 83076749736557242056487941267521536] X) 7083549724304467820544 := lf_sub (k := 1180591620717411303424) hB m1 m2 (by decide +kernel)
  have m4 := ap_yb hB hl hp
  have m5 : Ap 1329227995784915872903807060280344576 _ (dot [-24923024920967171694609178694778880, -49015282344568770230783715028500480, -9138442471021296672330533723701248, -24923024920967171694609178694778880, -49015282344568770230783715028500480, -9138442471021296672330533723701248, 83076749736557242056487941267521536] X) 14167099448608935641088 := lf_sub (k := 1180591620717411303424) hB m3 m4 (by decide +kernel)
  exact m5
theorem lk_i {X : List Int} (hB : InB X [16, 16, 16, 16, 16, 16, 48]) (hl : X.length = 7) (hp : ∀ i, i < 7 → 0 ≤ X.getD i 0 ∧ X.getD i 0 < 64) : Ap 1532495540865888858358347027150309183618739122183602176 (lkI (X.getD 0 0) (X.getD 1 0) (X.getD 2 0) (X.getD 3 0) (X.getD 4 0) (X.getD 5 0)) (dot [-57372801811166714549509751513833424073515451476344832, 26560063342631933371262394326786743555788473672663040, 30812738468534779304035883130315405976604887375413248, -57372801811166714549509751513833424073515451476344832, 26560063342631933371262394326786743555788473672663040, 30812738468534779304035883130315405976604887375413248, 0] X) 26024795422113373830749988330137133776896 := by
  unfold lkI
  have m1 := ap_ia hB hl hp
  have m2 : Ap 1532495540865888858358347027150309183618739122183602176 _ (dot [-57372801811166714549509751513833424073515451476344832, 26560063342631933371262394326786743555788473672663040, 30812738468534779304035883130315405976604887375413248, 0, 0, 0, 0] X) 12331832977214809988448244950205030465536 := lf_neg m1 (by decide +kernel)
  have m3 := ap_ib hB hl hp
  have m4 : Ap 1532495540865888858358347027150309183618739122183602176 _ (dot [-57372801811166714549509751513833424073515451476344832, 26560063342631933371262394326786743555788473672663040, 30812738468534779304035883130315405976604887375413248, -57372801811166714549509751513833424073515451476344832, 26560063342631933371262394326786743555788473672663040, 30812738468534779304035883130315405976604887375413248, 0] X) 26024795422113373830749988330137133776896 := lf_sub (k := 1361129467683753853853498429727072845824) hB m2 m3 (by decide +kernel)
  exact m4
theorem lk_q {X : List Int} (hB : InB X [16, 16, 16, 16, 16, 16, 48]) (hl : X.length = 7) (hp : ∀ i, i < 7 → 0 ≤ X.getD i 0 ∧ X.getD i 0 < 64) : Ap 1532495540865888858358347027150309183618739122183602176 (lkQ (X.getD 0 0) (X.getD 1 0) (X.getD 2 0) (X.getD 3 0) (X.getD 4 0) (X.getD 5 0)) (dot [-20401346887777145884149925348949506423352506038878208, 50294588031792384936195735860655941273537840205004800, -29893241144015242601084559257431647269044232883535872, -20401346887777145884149925348949506423352506038878208, 50294588031792384936195735860655941273537840205004800, -29893241144015242601084559257431647269044232883535872, 0] X) 24064768988648767447042135057236018331648 := by
  unfold lkQ
  have m1 := ap_qa hB hl hp
  have m2 : Ap 1532495540865888858358347027150309183618739122183602176 _ (dot [-20401346887777145884149925348949506423352506038878208, 50294588031792384936195735860655941273537840205004800, -29893241144015242601084559257431647269044232883535872, 0, 0, 0, 0] X) 11351819760482506796594318313754472742912 := lf_neg m1 (by decide +kernel)
  have m3 := ap_qb hB hl hp
  have m4 : Ap 1532495540865888858358347027150309183618739122183602176 _ (dot [-20401346887777145884149925348949506423352506038878208, 50294588031792384936195735860655941273537840205004800, -29893241144015242601084559257431647269044232883535872, -20401346887777145884149925348949506423352506038878208, 50294588031792384936195735860655941273537840205004800, -29893241144015242601084559257431647269044232883535872, 0] X) 24064768988648767447042135057236018331648 := lf_sub (k := 1361129467683753853853498429727072845824) hB m2 m3 (by decide +kernel)
  exact m4
theorem lk_r0 {X : List Int} (hB : InB X [16, 16, 16, 16, 16, 16, 48]) (hl : X.length = 7) (hp : ∀ i, i < 7 → 0 ≤ X.getD i 0 ∧ X.getD i 0 < 64) : Ap 1766847064778384329583297500742918515827483896875618958121606201292619776 (rR (lkY (X.getD 0 0) (X.getD 1 0) (X.getD 2 0) (X.getD 3 0) (X.getD 4 0) (X.getD 5 0) (X.getD 6 0)) (lkI (X.getD 0 0) (X.getD 1 0) (X.getD 2 0) (X.getD 3 0) (X.getD 4 0) (X.getD 5 0)) (lkQ (X.getD 0 0) (X.getD 1 0) (X.getD 2 0) (X.getD 3 0) (X.getD 4 0) (X.getD 5 0))) (dot [-110427941548649020399625495963714455239930600978818519509073003041259520, 982269474433614831817159131824144078478325581789265920, -1181600072266332853130314086009212105557246704508469248, -110427941548649020399625495963714455239930600978818519509073003041259520, 982269474433614831817159131824144078478325581789265920, -1181600072266332853130314086009212105557246704508469248, 110427941548649020598956093796432407239217743554726184882600387580788736] X) 70819624475083171901230088326738579408883799645486751678464 := by
  unfold rR
  have m1 := lk_y hB hl hp
  have m2 : Ap 1766847064778384329583297500742918515827483896875618958121606201292619776 _ (dot [-33128382464594704953690395446218635485087701346170508569788818527354880, -65152485513702918720594083800304077548441127880595877774758594981396480, -12147073570351392327184991952243119130647832877032247681835607521230848, -33128382464594704953690395446218635485087701346170508569788818527354880, -65152485513702918720594083800304077548441127880595877774758594981396480, -12147073570351392327184991952243119130647832877032247681835607521230848, 110427941548649020598956093796432407239217743554726184882600387580788736] X) 18831305206160042291507368269622999248307066333392103538688 := lf_up (T := 1329227995784915872903807060280344576) m1 (by decide +kernel)
  have m3 := lk_i hB hl hp
  have m4 := lk_q hB hl hp
  have m5 : Ap 1766847064778384329583297500742918515827483896875618958121606201292619776 _ (dot [-62632790219244139392899323699314049432951441177275338661212084051640320, 28995113068107508895446418290948413143722001797489279537937320928870400, 33637677151136628451412092072175630740995018718584705042669690662420480, -62632790219244139392899323699314049432951441177275338661212084051640320, 28995113068107508895446418290948413143722001797489279537937320928870400, 33637677151136628451412092072175630740995018718584705042669690662420480, 0] X) 29980046752578348396758143784734358325826730200893105373184 := lf_mul (T := 1152921504606846976) (k := 1569275433846670190958947355801916604025588861116008628224) k_R1 hB m3 (by decide +kernel)
  have m6 : Ap 1766847064778384329583297500742918515827483896875618958121606201292619776 _ (dot [-95761172683838844346589719145532684918039142523445847231000902578995200, -36157372445595409825147665509355664404719126083106598236821274052526080, 21490603580785236124227100119932511610347185841552457360834083141189632, -95761172683838844346589719145532684918039142523445847231000902578995200, -36157372445595409825147665509355664404719126083106598236821274052526080, 21490603580785236124227100119932511610347185841552457360834083141189632, 110427941548649020598956093796432407239217743554726184882600387580788736] X) 50380627392585060879224459410159274178159385395401217540096 := lf_add (k := 1569275433846670190958947355801916604025588861116008628224) hB m2 m5 (by decide +kernel)
  have m7 : Ap 1766847064778384329583297500742918515827483896875618958121606201292619776 _ (dot [-14666768864810176053035776818181770321891458455372672278072100462264320, 36157372445595410807417139942970496221878257907250676715146855841792000, -21490603580785237305827172386265364740661271850764562918080787649658880, -14666768864810176053035776818181770321891458455372672278072100462264320, 36157372445595410807417139942970496221878257907250676715146855841792000, -21490603580785237305827172386265364740661271850764562918080787649658880, 0] X) 18869721648651440831046681560777388626698825388969525510144 := lf_mul (T := 1152921504606846976) (k := 1569275433846670190958947355801916604025588861116008628224) k_R2 hB m4 (by decide +kernel)
  have m8 : Ap 1766847064778384329583297500742918515827483896875618958121606201292619776 _ (dot [-110427941548649020399625495963714455239930600978818519509073003041259520, 982269474433614831817159131824144078478325581789265920, -1181600072266332853130314086009212105557246704508469248, -110427941548649020399625495963714455239930600978818519509073003041259520, 982269474433614831817159131824144078478325581789265920, -1181600072266332853130314086009212105557246704508469248, 110427941548649020598956093796432407239217743554726184882600387580788736] X) 70819624475083171901230088326738579408883799645486751678464 := lf_add (k := 1569275433846670190958947355801916604025588861116008628224) hB m6 m7 (by decide +kernel)
  exact m8
theorem lk_r {a0 a1 a2 b0 b1 b2 g : Int} (h0 : 0 ≤ a0 ∧ a0 ≤ 16) (h1 : 0 ≤ a1 ∧ a1 ≤ 16) (h2 : 0 ≤ a2 ∧ a2 ≤ 16) (k0 : 0 ≤ b0 ∧ b0 ≤ 16) (k1 : 0 ≤ b1 ∧ b1 ≤ 16) (k2 : 0 ≤ b2 ∧ b2 ≤ 16) (hg : 0 ≤ g ∧ g ≤ 48) : OkF (lkR a0 a1 a2 b0 b1 b2 g) ∧ lampI (lkR a0 a1 a2 b0 b1 b2 g) = clampI 16 (g - a0 - b0) := by
  have hB : InB [a0, a1, a2, b0, b1, b2, g] [16, 16, 16, 16, 16, 16, 48] := .cons h0 (.cons h1 (.cons h2 (.cons k0 (.cons k1 (.cons k2 (.cons hg .nil))))))
  have := lf_end (s := 110427941548649020598956093796432407239217743554726184882600387580788736) (c0 := [-1, 0, 0, -1, 0, 0, 1]) (d := 37811202312522651300170050752294787377831894544271015936) hB (lk_r0 hB rfl (in_get h0 h1 h2 k0 k1 k2 hg)) (by decide +kernel)
  rw [show dot [-1, 0, 0, -1, 0, 0, 1] [a0, a1, a2, b0, b1, b2, g] = g - a0 - b0 by simp only [dot]; exact linz [] [_, _, _, _, _, _, _] (.a (.m (-1) (.v 0)) (.a (.m 0 (.v 1)) (.a (.m 0 (.v 2)) (.a (.m (-1) (.v 3)) (.a (.m 0 (.v 4)) (.a (.m 0 (.v 5)) (.a (.m 1 (.v 6)) (.i 0)))))))) (.s (.s (.v 6) (.v 0)) (.v 3)) .n (by kernel_rfl)] at this
  exact this
theorem lk_g0 {X : List Int} (hB : InB X [16, 16, 16, 16, 16, 16, 48]) (hl : X.length = 7) (hp : ∀ i, i < 7 → 0 ≤ X.getD i 0 ∧ X.getD i 0 < 64) : Ap 1766847064778384329583297500742918515827483896875618958121606201292619776 (rG (lkY (X.getD 0 0) (X.getD 1 0) (X.getD 2 0) (X.getD 3 0) (X.getD 4 0) (X.getD 5 0) (X.getD 6 0)) (lkI (X.getD 0 0) (X.getD 1 0) (X.getD 2 0) (X.getD 3 0) (X.getD 4 0) (X.getD 5 0)) (lkQ (X.getD 0 0) (X.getD 1 0) (X.getD 2 0) (X.getD 3 0) (X.getD 4 0) (X.getD 5 0))) (dot [245829873031108104193878916674929634204795057494556672, -110427941548649010979688264023018367361811497138802612748924813794344960, -2072747495011867200295907327820039797204712710515720192, 245829873031108104193878916674929634204795057494556672, -110427941548649010979688264023018367361811497138802612748924813794344960, -2072747495011867200295907327820039797204712710515720192, 110427941548649020598956093796432407239217743554726184882600387580788736] X) 50990400883668519067364748338859307795538298835031885348864 := by
  unfold rG
  have m1 := lk_y hB hl hp
  have m2 : Ap 1766847064778384329583297500742918515827483896875618958121606201292619776 _ (dot [-33128382464594704953690395446218635485087701346170508569788818527354880, -65152485513702918720594083800304077548441127880595877774758594981396480, -12147073570351392327184991952243119130647832877032247681835607521230848, -33128382464594704953690395446218635485087701346170508569788818527354880, -65152485513702918720594083800304077548441127880595877774758594981396480, -12147073570351392327184991952243119130647832877032247681835607521230848, 110427941548649020598956093796432407239217743554726184882600387580788736] X) 18831305206160042291507368269622999248307066333392103538688 := lf_up (T := 1329227995784915872903807060280344576) m1 (by decide +kernel)
  have m3 := lk_i hB hl hp
  have m4 := lk_q hB hl hp
  have m5 : Ap 1766847064778384329583297500742918515827483896875618958121606201292619776 _ (dot [-18176196252132858519884766058018554284283559667059207858654068808351744, 8414456128074192119904860508296631984363977123340513079633827782983680, 9761740124058665806213617429835461717075709003336519286542253336559616, -18176196252132858519884766058018554284283559667059207858654068808351744, 8414456128074192119904860508296631984363977123340513079633827782983680, 9761740124058665806213617429835461717075709003336519286542253336559616, 0] X) 9814154088559211573400508993902085429424771907063965024256 := lf_mul (T := 1152921504606846976) (k := 1569275433846670190958947355801916604025588861116008628224) k_G1 hB m3 (by decide +kernel)
  have m6 : Ap 1766847064778384329583297500742918515827483896875618958121606201292619776 _ (dot [-14952186212461846433805629388200081200804141679111300711134749719003136, -73566941641777110840498944308600709532805105003936390854392422764380160, -21908813694410058133398609382078580847723541880368766968377860857790464, -14952186212461846433805629388200081200804141679111300711134749719003136, -73566941641777110840498944308600709532805105003936390854392422764380160, -21908813694410058133398609382078580847723541880368766968377860857790464, 110427941548649020598956093796432407239217743554726184882600387580788736] X) 30214734728565924055866824619327001281757427101572077191168 := lf_sub (k := 1569275433846670190958947355801916604025588861116008628224) hB m2 m5 (by decide +kernel)
  have m7 : Ap 1766847064778384329583297500742918515827483896875618958121606201292619776 _ (dot [-14952186212461846679635502419308185394683058354040934915929807213559808, 36860999906871900139189319714417657829006392134866221894532391029964800, -21908813694410056060651114370211380551816214060328969763665150342070272, -14952186212461846679635502419308185394683058354040934915929807213559808, 36860999906871900139189319714417657829006392134866221894532391029964800, -21908813694410056060651114370211380551816214060328969763665150342070272, 0] X) 19206390721255924820538976363730389909755282872343799529472 := lf_mul (T := 1152921504606846976) (k := 1569275433846670190958947355801916604025588861116008628224) k_G2 hB m4 (by decide +kernel)
  have m8 : Ap 1766847064778384329583297500742918515827483896875618958121606201292619776 _ (dot [245829873031108104193878916674929634204795057494556672, -110427941548649010979688264023018367361811497138802612748924813794344960, -2072747495011867200295907327820039797204712710515720192, 245829873031108104193878916674929634204795057494556672, -110427941548649010979688264023018367361811497138802612748924813794344960, -2072747495011867200295907327820039797204712710515720192, 110427941548649020598956093796432407239217743554726184882600387580788736] X) 50990400883668519067364748338859307795538298835031885348864 := lf_sub (k := 1569275433846670190958947355801916604025588861116008628224) hB m6 m7 (by decide +kernel)
  exact m8
theorem lk_g {a0 a1 a2 b0 b1 b2 g : Int} (h0 : 0 ≤ a0 ∧ a0 ≤ 16) (h1 : 0 ≤ a1 ∧ a1 ≤ 16) (h2 : 0 ≤ a2 ∧ a2 ≤ 16) (k0 : 0 ≤ b0 ∧ b0 ≤ 16) (k1 : 0 ≤ b1 ∧ b1 ≤ 16) (k2 : 0 ≤ b2 ∧ b2 ≤ 16) (hg : 0 ≤ g ∧ g ≤ 48) : OkF (lkG a0 a1 a2 b0 b1 b2 g) ∧ lampI (lkG a0 a1 a2 b0 b1 b2 g) = clampI 16 (g - a1 - b1) := by
  have hB : InB [a0, a1, a2, b0, b1, b2, g] [16, 16, 16, 16, 16, 16, 48] := .cons h0 (.cons h1 (.cons h2 (.cons k0 (.cons k1 (.cons k2 (.cons hg .nil))))))
  have := lf_end (s := 110427941548649020598956093796432407239217743554726184882600387580788736) (c0 := [0, -1, 0, 0, -1, 0, 1]) (d := 315683126489744708610281125218907302602831060200992014336) hB (lk_g0 hB rfl (in_get h0 h1 h2 k0 k1 k2 hg)) (by decide +kernel)
  rw [show dot [0, -1, 0, 0, -1, 0, 1] [a0, a1, a2, b0, b1, b2, g] = g - a1 - b1 by simp only [dot]; exact linz [] [_, _, _, _, _, _, _] (.a (.m 0 (.v 0)) (.a (.m (-1) (.v 1)) (.a (.m 0 (.v 2)) (.a (.m 0 (.v 3)) (.a (.m (-1) (.v 4)) (.a (.m 0 (.v 5)) (.a (.m 1 (.v 6)) (.i 0)))))))) (.s (.s (.v 6) (.v 1)) (.v 4)) .n (by kernel_rfl)] at this
  exact this
theorem lk_b0 {X : List Int} (hB : InB X [16, 16, 16, 16, 16, 16, 48]) (hl : X.length = 7) (hp : ∀ i, i < 7 → 0 ≤ X.getD i 0 ∧ X.getD i 0 < 64) : Ap 1766847064778384329583297500742918515827483896875618958121606201292619776 (rB (lkY (X.getD 0 0) (X.getD 1 0) (X.getD 2 0) (X.getD 3 0) (X.getD 4 0) (X.getD 5 0) (X.getD 6 0)) (lkI (X.getD 0 0) (X.getD 1 0) (X.getD 2 0) (X.getD 3 0) (X.getD 4 0) (X.getD 5 0)) (lkQ (X.getD 0 0) (X.getD 1 0) (X.getD 2 0) (X.getD 3 0) (X.getD 4 0) (X.getD 5 0))) (dot [-7408132994055111226589864722087145929180894094396751872, 6051648636195941403742700764567454030200656210344017920, -110427941548649019242471735937263011426777483884314013730369168102916096, -7408132994055111226589864722087145929180894094396751872, 6051648636195941403742700764567454030200656210344017920, -110427941548649019242471735937263011426777483884314013730369168102916096, 110427941548649020598956093796432407239217743554726184882600387580788736] X) 105785835527629760981253929500182747232777482202465693597696 := by
  unfold rB
  have m1 := lk_y hB hl hp
  have m2 : Ap 1766847064778384329583297500742918515827483896875618958121606201292619776 _ (dot [-33128382464594704953690395446218635485087701346170508569788818527354880, -65152485513702918720594083800304077548441127880595877774758594981396480, -12147073570351392327184991952243119130647832877032247681835607521230848, -33128382464594704953690395446218635485087701346170508569788818527354880, -65152485513702918720594083800304077548441127880595877774758594981396480, -12147073570351392327184991952243119130647832877032247681835607521230848, 110427941548649020598956093796432407239217743554726184882600387580788736] X) 18831305206160042291507368269622999248307066333392103538688 := lf_up (T := 1329227995784915872903807060280344576) m1 (by decide +kernel)
  have m3 := lk_i hB hl hp
  have m4 := lk_q hB hl hp
  have m5 : Ap 1766847064778384329583297500742918515827483896875618958121606201292619776 _ (dot [-73326193427407769365482802462933783561870861002332942135088396464291840, 33945498226077081926528437093360351230900649017205412561036556160204800, 39380695201330685043589510732082811152095124021576257120478865139957760, -73326193427407769365482802462933783561870861002332942135088396464291840, 33945498226077081926528437093360351230900649017205412561036556160204800, 39380695201330685043589510732082811152095124021576257120478865139957760, 0] X) 34830666246020340611809804623570701870525214694243768991744 := lf_mul (T := 1152921504606846976) (k := 1569275433846670190958947355801916604025588861116008628224) k_B1 hB m3 (by decide +kernel)
  have m6 : Ap 1766847064778384329583297500742918515827483896875618958121606201292619776 _ (dot [40197810962813064411792407016715148076783159656162433565299577936936960, -99097983739780000647122520893664428779341776897801290335795151141601280, -51527768771682077370774502684325930282742956898608504802314472661188608, 40197810962813064411792407016715148076783159656162433565299577936936960, -99097983739780000647122520893664428779341776897801290335795151141601280, -51527768771682077370774502684325930282742956898608504802314472661188608, 110427941548649020598956093796432407239217743554726184882600387580788736] X) 55231246886027053094276120248995617722857869888751881158656 := lf_sub (k := 1569275433846670190958947355801916604025588861116008628224) hB m2 m5 (by decide +kernel)
  have m7 : Ap 1766847064778384329583297500742918515827483896875618958121606201292619776 _ (dot [-40197810962813071819925401071826374666647881743308362746193672333688832, 99097983739780006698771157089605832522042541465255320536451361485619200, -58900172776966941871697233252937081144034526985705508928054695441727488, -40197810962813071819925401071826374666647881743308362746193672333688832, 99097983739780006698771157089605832522042541465255320536451361485619200, -58900172776966941871697233252937081144034526985705508928054695441727488, 0] X) 48985313207756037696018861895385212905894023452597803810816 := lf_mul (T := 1152921504606846976) (k := 1569275433846670190958947355801916604025588861116008628224) k_B2 hB m4 (by decide +kernel)
  have m8 : Ap 1766847064778384329583297500742918515827483896875618958121606201292619776 _ (dot [-7408132994055111226589864722087145929180894094396751872, 6051648636195941403742700764567454030200656210344017920, -110427941548649019242471735937263011426777483884314013730369168102916096, -7408132994055111226589864722087145929180894094396751872, 6051648636195941403742700764567454030200656210344017920, -110427941548649019242471735937263011426777483884314013730369168102916096, 110427941548649020598956093796432407239217743554726184882600387580788736] X) 105785835527629760981253929500182747232777482202465693597696 := lf_add (k := 1569275433846670190958947355801916604025588861116008628224) hB m6 m7 (by decide +kernel)
  exact m8
theorem lk_b {a0 a1 a2 b0 b1 b2 g : Int} (h0 : 0 ≤ a0 ∧ a0 ≤ 16) (h1 : 0 ≤ a1 ∧ a1 ≤ 16) (h2 : 0 ≤ a2 ∧ a2 ≤ 16) (k0 : 0 ≤ b0 ∧ b0 ≤ 16) (k1 : 0 ≤ b1 ∧ b1 ≤ 16) (k2 : 0 ≤ b2 ∧ b2 ≤ 16) (hg : 0 ≤ g ∧ g ≤ 48) : OkF (lkB a0 a1 a2 b0 b1 b2 g) ∧ lampI (lkB a0 a1 a2 b0 b1 b2 g) = clampI 16 (g - a2 - b2) := by
  have hB : InB [a0, a1, a2, b0, b1, b2, g] [16, 16, 16, 16, 16, 16, 48] := .cons h0 (.cons h1 (.cons h2 (.cons k0 (.cons k1 (.cons k2 (.cons hg .nil))))))
  have := lf_end (s := 110427941548649020598956093796432407239217743554726184882600387580788736) (c0 := [0, 0, -1, 0, 0, -1, 1]) (d := 237060255809763559250875671106788669733788611020696059904) hB (lk_b0 hB rfl (in_get h0 h1 h2 k0 k1 k2 hg)) (by decide +kernel)
  rw [show dot [0, 0, -1, 0, 0, -1, 1] [a0, a1, a2, b0, b1, b2, g] = g - a2 - b2 by simp only [dot]; exact linz [] [_, _, _, _, _, _, _] (.a (.m 0 (.v 0)) (.a (.m 0 (.v 1)) (.a (.m (-1) (.v 2)) (.a (.m 0 (.v 3)) (.a (.m 0 (.v 4)) (.a (.m (-1) (.v 5)) (.a (.m 1 (.v 6)) (.i 0)))))))) (.s (.s (.v 6) (.v 2)) (.v 5)) .n (by kernel_rfl)] at this
  exact this
end
section
open PySem.Float64
noncomputable def Qf (p q : Nat) : UInt64 := Float64.div (d16 p) (d16 q)
noncomputable def Hr (s p q : Nat) : UInt64 :=
  match s with
  | 0 => Float64.sub (Qf q q) (Qf p q)
  | 1 => Float64.sub (Qf p q) (Qf q q)
  | 2 => Float64.sub (Float64.add 4611686018427387904 (Qf p q)) (Qf q q)
  | 3 => Float64.sub (Float64.add 4611686018427387904 (Qf q q)) (Qf p q)
  | 4 => Float64.sub (Float64.add 4616189618054758400 (Qf p q)) (Qf q q)
  | _ => Float64.sub (Float64.add 4616189618054758400 (Qf q q)) (Qf p q)
noncomputable def hueT (s p q : Nat) : UInt64 := (Float64.divmod (Float64.div (Hr s p q) 4618441417868443648) 4607182418800017408).2
noncomputable def hueNT (s : Nat) (p q : Nat) : Nat :=
  match s with
  | 0 => q - p
  | 1 => if p = q then 0 else 5 * q + p
  | 2 => q + p
  | 3 => 3 * q - p
  | 4 => 3 * q + p
  | _ => 5 * q - p
noncomputable def okH (h : UInt64) (n q : Nat) : Bool := isFinite h && Nat.ble ((val h * (6 * q : Nat) - ((n * 2 ^ 1074 : Nat) : Int)).natAbs * 2 ^ 60) (2 ^ 14 * 2 ^ 1074)
noncomputable def rowH (s : Nat) : Bool := (List.range 16).all fun q => (List.range (q + 2)).all fun p => okH (hueT s p (q + 1)) (hueNT s p (q + 1)) (q + 1)
theorem row0 : rowH 0 = true := by decide +kernel
theorem row1 : rowH 1 = true := by decide +kernel
theorem row2 : rowH 2 = true := by decide +kernel
theorem row3 : rowH 3 = true := by decide +kernel
theorem row4 : rowH 4 = true := by decide +kernel
theorem row5 : rowH 5 = true := by decide +kernel
end
section
open PySem.Float64
noncomputable def lumG (A B : UInt64) : UInt64 := Float64.div (Float64.add A B) 4611686018427387904
noncomputable def satG (A B : UInt64) : UInt64 :=
  if (Float64.cmp (lumG A B) 4602678819172646912 == some Ordering.lt || Float64.cmp (lumG A B) 4602678819172646912 == some Ordering.eq) = true then Float64.div (Float64.sub A B) (Float64.add A B)
  else Float64.div (Float64.sub A B) (Float64.sub (Float64.sub 4611686018427387904 A) B)
noncomputable def nearM (x : UInt64) (n : Nat) : Bool := isFinite x && Nat.ble ((val x * 16 - ((n * 2 ^ 1074 : Nat) : Int)).natAbs * 2 ^ 60) (2 ^ 16 * 2 ^ 1074)
noncomputable def okM (M m : Nat) : Bool :=
  nearM (m1F (lumG (d16 M) (d16 m)) (satG (d16 M) (d16 m))) m && (nearM (m2F (lumG (d16 M) (d16 m)) (satG (d16 M) (d16 m))) M && (!isZero (d16 M) && (!isZero (Float64.add (d16 M) (d16 m)) && (!isZero (Float64.sub (d16 M) (d16 m)) && (!isZero (Float64.sub (Float64.sub 4611686018427387904 (d16 M)) (d16 m)) &&
  (!(Float64.cmp (d16 m) (d16 M) == some Ordering.eq) && !(Float64.cmp (satG (d16 M) (d16 m)) 0 == some Ordering.eq)))))))
theorem rowM : ((List.range 16).all fun M => (List.range (M + 1)).all fun m => okM (M + 1) m) = true := by decide +kernel
theorem rowS : ((List.range 17).all fun i => (List.range (i + 1)).all fun j => Float64.sub (d16 i) (d16 j) == d16 ((i - j : Nat) : Int)) = true := by decide +kernel
end
section
open PySem.Float64
theorem all_range {n : Nat} {f : Nat → Bool} (h : (List.range n).all f = true) {i : Nat} (hi : i < n) : f i = true := List.all_eq_true.mp h i (List.mem_range.mpr hi)
theorem fn_d16 {n : Nat} (h : n < 64) : Fn (d16 (n : Int)) := (ap_d16 (by exact Int.not_lt.mp (fun u9 => lin [_] [] (.L 1 (.a (.z (.v 0)) (.i 1)) (.i 0) .n) (by kernel_rfl) u9)) (by exact Int.not_le.mp (fun u9 => lin [_] [] (.L 1 (.i 64) (.z (.v 0)) (.l 1 (.a (.v 0) (.c 1)) (.c 64) .n)) (by kernel_rfl) u9 h))).fn
theorem val_d16 {n : Nat} (h : n < 64) : val (d16 (n : Int)) * 16 = (n : Int) * PP := (d16_tab ⟨n, h⟩).2
theorem lt_d16 {i j : Nat} (hi : i < 64) (hj : j < 64) : (cmp (d16 (i : Int)) (d16 (j : Int)) == some Ordering.lt) = decide (i < j) := by
  rw [cmp_lt (fn_d16 hi) (fn_d16 hj)]
  have h1 := val_d16 hi
  have h2 := val_d16 hj
  have hP := PP_pos
  apply decide_eq_decide.mpr
  constructor
  · intro h
    apply Classical.byContradiction
    intro hn
    have : (j : Int) * PP ≤ (i : Int) * PP := Int.mul_le_mul_of_nonneg_right (by exact Int.not_lt.mp (fun u9 => lin [_, _] [] (.L 1 (.a (.z (.v 1)) (.i 1)) (.z (.v 0)) (.l 1 (.v 0) (.v 1) .n)) (by kernel_rfl) u9 (Nat.not_lt.mp hn))) (Int.le_of_lt hP)
    exact lin [] [_, _, _, _] (.E (-1) (.r (.v 0) 16) (.v 1) (.E 1 (.r (.v 2) 16) (.v 3) (.L 16 (.a (.v 0) (.i 1)) (.v 2) (.L 1 (.v 3) (.v 1) .n)))) (by kernel_rfl) h1 h2 h this
  · intro h
    have : (i : Int) * PP < (j : Int) * PP := Int.mul_lt_mul_of_pos_right (by exact Int.not_le.mp (fun u9 => lin [_, _] [] (.L 1 (.z (.v 1)) (.z (.v 0)) (.l 1 (.a (.v 0) (.c 1)) (.v 1) .n)) (by kernel_rfl) u9 h)) hP
    exact Int.not_le.mp (fun u9 => lin [] [_, _, _, _] (.L 16 (.v 2) (.v 0) (.E 1 (.r (.v 0) 16) (.v 1) (.E (-1) (.r (.v 2) 16) (.v 3) (.L 1 (.a (.v 1) (.i 1)) (.v 3) .n)))) (by kernel_rfl) u9 h1 h2 this)
theorem eq_d16 {i j : Nat} (hi : i < 64) (hj : j < 64) : (cmp (d16 (i : Int)) (d16 (j : Int)) == some Ordering.eq) = decide (i = j) := by
  rw [cmp_fn (fn_d16 hi) (fn_d16 hj)]
  have h1 := val_d16 hi
  have h2 := val_d16 hj
  have hP := PP_pos
  rcases Nat.lt_trichotomy i j with h | h | h
  · have : (i : Int) * PP < (j : Int) * PP := Int.mul_lt_mul_of_pos_right (by exact Int.not_le.mp (fun u9 => lin [_, _] [] (.L 1 (.z (.v 1)) (.z (.v 0)) (.l 1 (.a (.v 0) (.c 1)) (.v 1) .n)) (by kernel_rfl) u9 h)) hP
    rw [Int.compare_eq_lt.mpr (by exact Int.not_le.mp (fun u9 => lin [] [_, _, _, _] (.L 16 (.v 2) (.v 0) (.E 1 (.r (.v 0) 16) (.v 1) (.E (-1) (.r (.v 2) 16) (.v 3) (.L 1 (.a (.v 1) (.i 1)) (.v 3) .n)))) (by kernel_rfl) u9 h1 h2 this)), decide_eq_false (by exact fun u9 => lin [_, _] [] (.e (-1) (.v 0) (.v 1) (.l 1 (.a (.v 0) (.c 1)) (.v 1) .n)) (by kernel_rfl) u9 h)]; rfl
  · subst h
    rw [Int.compare_eq_eq.mpr rfl, decide_eq_true rfl]; rfl
  · have : (j : Int) * PP < (i : Int) * PP := Int.mul_lt_mul_of_pos_right (by exact Int.not_le.mp (fun u9 => lin [_, _] [] (.L 1 (.z (.v 1)) (.z (.v 0)) (.l 1 (.a (.v 0) (.c 1)) (.v 1) .n)) (by kernel_rfl) u9 h)) hP
    rw [Int.compare_eq_gt.mpr (by exact Int.not_le.mp (fun u9 => lin [] [_, _, _, _] (.L 16 (.v 0) (.v 2) (.E (-1) (.r (.v 0) 16) (.v 1) (.E 1 (.r (.v 2) 16) (.v 3) (.L 1 (.a (.v 3) (.i 1)) (.v 1) .n)))) (by kernel_rfl) u9 h1 h2 this)), decide_eq_false (by exact fun u9 => lin [_, _] [] (.e 1 (.v 1) (.v 0) (.l 1 (.a (.v 0) (.c 1)) (.v 1) .n)) (by kernel_rfl) u9 h)]; rfl
theorem sub_d16 {i j : Nat} (hi : i ≤ 16) (hj : j ≤ i) : Float64.sub (d16 (i : Int)) (d16 (j : Int)) = d16 ((i - j : Nat) : Int) := by
  have h := all_range (all_range rowS (i := i) (by exact Nat.not_le.mp (fun u9 => lin [_] [] (.l 1 (.c 17) (.v 0) (.l 1 (.v 0) (.c 16) .n)) (by kernel_rfl) u9 hi))) (i := j) (by exact Nat.not_le.mp (fun u9 => lin [_, _] [] (.l 1 (.a (.v 1) (.c 1)) (.v 0) (.l 1 (.v 0) (.v 1) .n)) (by kernel_rfl) u9 hj))
  exact eq_of_beq h
theorem mx_d16 {x y z : Nat} (hx : x ≤ 16) (hy : y ≤ 16) (hz : z ≤ 16) : mx3 (d16 (x : Int)) (d16 (y : Int)) (d16 (z : Int)) = d16 ((max x (max y z) : Nat) : Int) := by
  unfold mx3 Flt.maxOfBits
  show (if Flt.gtB (d16 (z : Int)) (if Flt.gtB (d16 (y : Int)) (d16 (x : Int)) = true then d16 (y : Int) else d16 (x : Int)) = true then d16 (z : Int) else (if Flt.gtB (d16 (y : Int)) (d16 (x : Int)) = true then d16 (y : Int) else d16 (x : Int))) = _
  unfold Flt.gtB
  rw [lt_d16 (i := x) (j := y) (by exact Nat.not_le.mp (fun u9 => lin [_] [] (.l 1 (.c 64) (.v 0) (.l 1 (.v 0) (.c 16) .n)) (by kernel_rfl) u9 hx)) (by exact Nat.not_le.mp (fun u9 => lin [_] [] (.l 1 (.c 64) (.v 0) (.l 1 (.v 0) (.c 16) .n)) (by kernel_rfl) u9 hy))]
  by_cases h : x < y
  · simp only [decide_eq_true h, if_true]
    rw [lt_d16 (i := y) (j := z) (by exact Nat.not_le.mp (fun u9 => lin [_] [] (.l 1 (.c 64) (.v 0) (.l 1 (.v 0) (.c 16) .n)) (by kernel_rfl) u9 hy)) (by exact Nat.not_le.mp (fun u9 => lin [_] [] (.l 1 (.c 64) (.v 0) (.l 1 (.v 0) (.c 16) .n)) (by kernel_rfl) u9 hz))]
    by_cases h2 : y < z
    · rw [if_pos (decide_eq_true h2)]; congr 2; exact linn [_, _, _] [] (.v 0) (.v 1) (.e 1 (.v 1) (.v 2) (.e 1 (.v 2) (.v 0) .n)) (by kernel_rfl) (Nat.max_eq_right (Nat.not_lt.mp (fun u9 => lin [_, _, _, _] [] (.l 1 (.a (.v 3) (.c 1)) (.v 0) (.l 1 (.a (.v 0) (.c 1)) (.v 1) (.l 1 (.a (.v 1) (.c 1)) (.v 2) (.e (-1) (.v 3) (.v 2) .n)))) (by kernel_rfl) u9 h h2 (Nat.max_eq_right (Nat.not_lt.mp (fun u9 => lin [_, _] [] (.l 1 (.a (.v 1) (.c 1)) (.v 0) (.l 1 (.a (.v 0) (.c 1)) (.v 1) .n)) (by kernel_rfl) u9 h2)))))) (Nat.max_eq_right (Nat.not_lt.mp (fun u9 => lin [_, _] [] (.l 1 (.a (.v 1) (.c 1)) (.v 0) (.l 1 (.a (.v 0) (.c 1)) (.v 1) .n)) (by kernel_rfl) u9 h2)))
    · rw [if_neg (by simpa using h2)]; congr 2; exact linn [_, _, _] [] (.v 0) (.v 1) (.e 1 (.v 1) (.v 2) (.e 1 (.v 2) (.v 0) .n)) (by kernel_rfl) (Nat.max_eq_right (Nat.not_lt.mp (fun u9 => lin [_, _, _] [] (.l 1 (.a (.v 2) (.c 1)) (.v 0) (.l 1 (.a (.v 0) (.c 1)) (.v 1) (.e (-1) (.v 2) (.v 1) .n))) (by kernel_rfl) u9 h (Nat.max_eq_left (Nat.not_lt.mp (fun u9 => lin [_, _] [] (.l 1 (.a (.v 0) (.c 1)) (.v 1) (.l 1 (.v 1) (.v 0) .n)) (by kernel_rfl) u9 (Nat.not_lt.mp h2))))))) (Nat.max_eq_left (Nat.not_lt.mp (fun u9 => lin [_, _] [] (.l 1 (.a (.v 0) (.c 1)) (.v 1) (.l 1 (.v 1) (.v 0) .n)) (by kernel_rfl) u9 (Nat.not_lt.mp h2))))
  · simp only [decide_eq_false h, Bool.false_eq_true, if_false]
    rw [lt_d16 (i := x) (j := z) (by exact Nat.not_le.mp (fun u9 => lin [_] [] (.l 1 (.c 64) (.v 0) (.l 1 (.v 0) (.c 16) .n)) (by kernel_rfl) u9 hx)) (by exact Nat.not_le.mp (fun u9 => lin [_] [] (.l 1 (.c 64) (.v 0) (.l 1 (.v 0) (.c 16) .n)) (by kernel_rfl) u9 hz))]
    by_cases h2 : x < z
    · rw [if_pos (decide_eq_true h2)]; congr 2; exact linn [_, _, _] [] (.v 0) (.v 1) (.e 1 (.v 1) (.v 2) (.e 1 (.v 2) (.v 0) .n)) (by kernel_rfl) (Nat.max_eq_right (Nat.not_lt.mp (fun u9 => lin [_, _, _] [] (.l 1 (.a (.v 2) (.c 1)) (.v 0) (.l 1 (.a (.v 0) (.c 1)) (.v 1) (.e (-1) (.v 2) (.v 1) .n))) (by kernel_rfl) u9 h2 (Nat.max_eq_right (Nat.not_lt.mp (fun u9 => lin [_, _, _] [] (.l 1 (.a (.v 2) (.c 1)) (.v 0) (.l 1 (.v 0) (.v 1) (.l 1 (.a (.v 1) (.c 1)) (.v 2) .n))) (by kernel_rfl) u9 (Nat.not_lt.mp h) h2)))))) (Nat.max_eq_right (Nat.not_lt.mp (fun u9 => lin [_, _, _] [] (.l 1 (.a (.v 2) (.c 1)) (.v 0) (.l 1 (.v 0) (.v 1) (.l 1 (.a (.v 1) (.c 1)) (.v 2) .n))) (by kernel_rfl) u9 (Nat.not_lt.mp h) h2)))
    · rw [if_neg (by simpa using h2)]; congr 2; exact Or.elim (Nat.le_total (x) (max y z)) (fun q0 => Or.elim (Nat.le_total (y) (z)) (fun q1 => Nat.le_antisymm (Nat.not_lt.mp (fun u9 => lin [_, _, _] [] (.l 1 (.a (.v 2) (.c 1)) (.v 0) (.l 1 (.v 0) (.v 1) (.e (-1) (.v 2) (.v 1) .n))) (by kernel_rfl) u9 q0 (Nat.max_eq_right (Nat.not_lt.mp (fun u9 => lin [_, _] [] (.l 1 (.a (.v 1) (.c 1)) (.v 0) (.l 1 (.v 0) (.v 1) .n)) (by kernel_rfl) u9 q0))))) (Nat.not_lt.mp (fun u9 => lin [_, _, _, _] [] (.l 1 (.a (.v 0) (.c 1)) (.v 3) (.l 1 (.v 1) (.v 0) (.e 1 (.v 2) (.v 1) (.e 1 (.v 3) (.v 2) .n)))) (by kernel_rfl) u9 (Nat.not_lt.mp h2) (Nat.max_eq_right (Nat.not_lt.mp (fun u9 => lin [_, _] [] (.l 1 (.a (.v 1) (.c 1)) (.v 0) (.l 1 (.v 0) (.v 1) .n)) (by kernel_rfl) u9 q1))) (Nat.max_eq_right (Nat.not_lt.mp (fun u9 => lin [_, _] [] (.l 1 (.a (.v 1) (.c 1)) (.v 0) (.l 1 (.v 0) (.v 1) .n)) (by kernel_rfl) u9 q0)))))) (fun q1 => Nat.le_antisymm (Nat.not_lt.mp (fun u9 => lin [_, _, _] [] (.l 1 (.a (.v 2) (.c 1)) (.v 0) (.l 1 (.v 0) (.v 1) (.e (-1) (.v 2) (.v 1) .n))) (by kernel_rfl) u9 q0 (Nat.max_eq_right (Nat.not_lt.mp (fun u9 => lin [_, _] [] (.l 1 (.a (.v 1) (.c 1)) (.v 0) (.l 1 (.v 0) (.v 1) .n)) (by kernel_rfl) u9 q0))))) (Nat.not_lt.mp (fun u9 => lin [_, _, _, _] [] (.l 1 (.a (.v 1) (.c 1)) (.v 3) (.l 1 (.v 0) (.v 1) (.e 1 (.v 2) (.v 0) (.e 1 (.v 3) (.v 2) .n)))) (by kernel_rfl) u9 (Nat.not_lt.mp h) (Nat.max_eq_left (Nat.not_lt.mp (fun u9 => lin [_, _] [] (.l 1 (.a (.v 0) (.c 1)) (.v 1) (.l 1 (.v 1) (.v 0) .n)) (by kernel_rfl) u9 q1))) (Nat.max_eq_right (Nat.not_lt.mp (fun u9 => lin [_, _] [] (.l 1 (.a (.v 1) (.c 1)) (.v 0) (.l 1 (.v 0) (.v 1) .n)) (by kernel_rfl) u9 q0))))))) (fun q0 => linn [_, _] [] (.v 0) (.v 1) (.e 1 (.v 1) (.v 0) .n) (by kernel_rfl) (Nat.max_eq_left (Nat.not_lt.mp (fun u9 => lin [_, _] [] (.l 1 (.a (.v 0) (.c 1)) (.v 1) (.l 1 (.v 1) (.v 0) .n)) (by kernel_rfl) u9 q0))))
theorem mn_d16 {x y z : Nat} (hx : x ≤ 16) (hy : y ≤ 16) (hz : z ≤ 16) : mn3 (d16 (x : Int)) (d16 (y : Int)) (d16 (z : Int)) = d16 ((min x (min y z) : Nat) : Int) := by
  unfold mn3 Flt.minOfBits
  show (if Flt.ltB (d16 (z : Int)) (if Flt.ltB (d16 (y : Int)) (d16 (x : Int)) = true then d16 (y : Int) else d16 (x : Int)) = true then d16 (z : Int) else (if Flt.ltB (d16 (y : Int)) (d16 (x : Int)) = true then d16 (y : Int) else d16 (x : Int))) = _
  unfold Flt.ltB
  rw [lt_d16 (i := y) (j := x) (by exact Nat.not_le.mp (fun u9 => lin [_] [] (.l 1 (.c 64) (.v 0) (.l 1 (.v 0) (.c 16) .n)) (by kernel_rfl) u9 hy)) (by exact Nat.not_le.mp (fun u9 => lin [_] [] (.l 1 (.c 64) (.v 0) (.l 1 (.v 0) (.c 16) .n)) (by kernel_rfl) u9 hx))]
  by_cases h : y < x
  · simp only [decide_eq_true h, if_true]
    rw [lt_d16 (i := z) (j := y) (by exact Nat.not_le.mp (fun u9 => lin [_] [] (.l 1 (.c 64) (.v 0) (.l 1 (.v 0) (.c 16) .n)) (by kernel_rfl) u9 hz)) (by exact Nat.not_le.mp (fun u9 => lin [_] [] (.l 1 (.c 64) (.v 0) (.l 1 (.v 0) (.c 16) .n)) (by kernel_rfl) u9 hy))]
    by_cases h2 : z < y
    · rw [if_pos (decide_eq_true h2)]; congr 2; exact linn [_, _, _] [] (.v 0) (.v 1) (.e 1 (.v 1) (.v 2) (.e 1 (.v 2) (.v 0) .n)) (by kernel_rfl) (Nat.min_eq_right (Nat.not_lt.mp (fun u9 => lin [_, _, _, _] [] (.l 1 (.a (.v 1) (.c 1)) (.v 3) (.l 1 (.a (.v 0) (.c 1)) (.v 1) (.l 1 (.a (.v 2) (.c 1)) (.v 0) (.e 1 (.v 3) (.v 2) .n)))) (by kernel_rfl) u9 h h2 (Nat.min_eq_right (Nat.not_lt.mp (fun u9 => lin [_, _] [] (.l 1 (.a (.v 0) (.c 1)) (.v 1) (.l 1 (.a (.v 1) (.c 1)) (.v 0) .n)) (by kernel_rfl) u9 h2)))))) (Nat.min_eq_right (Nat.not_lt.mp (fun u9 => lin [_, _] [] (.l 1 (.a (.v 0) (.c 1)) (.v 1) (.l 1 (.a (.v 1) (.c 1)) (.v 0) .n)) (by kernel_rfl) u9 h2)))
    · rw [if_neg (by simpa using h2)]; congr 2; exact linn [_, _, _] [] (.v 0) (.v 1) (.e 1 (.v 1) (.v 2) (.e 1 (.v 2) (.v 0) .n)) (by kernel_rfl) (Nat.min_eq_right (Nat.not_lt.mp (fun u9 => lin [_, _, _] [] (.l 1 (.a (.v 1) (.c 1)) (.v 2) (.l 1 (.a (.v 0) (.c 1)) (.v 1) (.e 1 (.v 2) (.v 0) .n))) (by kernel_rfl) u9 h (Nat.min_eq_left (Nat.not_lt.mp (fun u9 => lin [_, _] [] (.l 1 (.a (.v 1) (.c 1)) (.v 0) (.l 1 (.v 0) (.v 1) .n)) (by kernel_rfl) u9 (Nat.not_lt.mp h2))))))) (Nat.min_eq_left (Nat.not_lt.mp (fun u9 => lin [_, _] [] (.l 1 (.a (.v 1) (.c 1)) (.v 0) (.l 1 (.v 0) (.v 1) .n)) (by kernel_rfl) u9 (Nat.not_lt.mp h2))))
  · simp only [decide_eq_false h, Bool.false_eq_true, if_false]
    rw [lt_d16 (i := z) (j := x) (by exact Nat.not_le.mp (fun u9 => lin [_] [] (.l 1 (.c 64) (.v 0) (.l 1 (.v 0) (.c 16) .n)) (by kernel_rfl) u9 hz)) (by exact Nat.not_le.mp (fun u9 => lin [_] [] (.l 1 (.c 64) (.v 0) (.l 1 (.v 0) (.c 16) .n)) (by kernel_rfl) u9 hx))]
    by_cases h2 : z < x
    · rw [if_pos (decide_eq_true h2)]; congr 2; exact linn [_, _, _] [] (.v 0) (.v 1) (.e 1 (.v 1) (.v 2) (.e 1 (.v 2) (.v 0) .n)) (by kernel_rfl) (Nat.min_eq_right (Nat.not_lt.mp (fun u9 => lin [_, _, _] [] (.l 1 (.a (.v 0) (.c 1)) (.v 2) (.l 1 (.a (.v 1) (.c 1)) (.v 0) (.e 1 (.v 2) (.v 1) .n))) (by kernel_rfl) u9 h2 (Nat.min_eq_right (Nat.not_lt.mp (fun u9 => lin [_, _, _] [] (.l 1 (.a (.v 1) (.c 1)) (.v 2) (.l 1 (.v 0) (.v 1) (.l 1 (.a (.v 2) (.c 1)) (.v 0) .n))) (by kernel_rfl) u9 (Nat.not_lt.mp h) h2)))))) (Nat.min_eq_right (Nat.not_lt.mp (fun u9 => lin [_, _, _] [] (.l 1 (.a (.v 1) (.c 1)) (.v 2) (.l 1 (.v 0) (.v 1) (.l 1 (.a (.v 2) (.c 1)) (.v 0) .n))) (by kernel_rfl) u9 (Nat.not_lt.mp h) h2)))
    · rw [if_neg (by simpa using h2)]; congr 2; exact Or.elim (Nat.le_total (x) (min y z)) (fun q0 => linn [_, _] [] (.v 0) (.v 1) (.e 1 (.v 1) (.v 0) .n) (by kernel_rfl) (Nat.min_eq_left (Nat.not_lt.mp (fun u9 => lin [_, _] [] (.l 1 (.a (.v 1) (.c 1)) (.v 0) (.l 1 (.v 0) (.v 1) .n)) (by kernel_rfl) u9 q0)))) (fun q0 => Or.elim (Nat.le_total (y) (z)) (fun q1 => linn [_, _] [] (.v 0) (.v 1) (.e 1 (.v 1) (.v 0) .n) (by kernel_rfl) (Nat.min_eq_left (Nat.not_lt.mp (fun u9 => lin [_, _, _] [] (.l 1 (.a (.v 2) (.c 1)) (.v 0) (.l 1 (.v 0) (.v 1) (.e (-1) (.v 2) (.v 1) .n))) (by kernel_rfl) u9 (Nat.not_lt.mp h) (Nat.min_eq_left (Nat.not_lt.mp (fun u9 => lin [_, _] [] (.l 1 (.a (.v 1) (.c 1)) (.v 0) (.l 1 (.v 0) (.v 1) .n)) (by kernel_rfl) u9 q1))))))) (fun q1 => linn [_, _] [] (.v 0) (.v 1) (.e 1 (.v 1) (.v 0) .n) (by kernel_rfl) (Nat.min_eq_left (Nat.not_lt.mp (fun u9 => lin [_, _, _] [] (.l 1 (.a (.v 2) (.c 1)) (.v 0) (.l 1 (.v 0) (.v 1) (.e (-1) (.v 2) (.v 1) .n))) (by kernel_rfl) u9 (Nat.not_lt.mp h2) (Nat.min_eq_right (Nat.not_lt.mp (fun u9 => lin [_, _] [] (.l 1 (.a (.v 0) (.c 1)) (.v 1) (.l 1 (.v 1) (.v 0) .n)) (by kernel_rfl) u9 q1))))))))

noncomputable def mxN (x y z : Nat) : Nat := max x (max y z)
noncomputable def mnN (x y z : Nat) : Nat := min x (min y z)
/-- the hue's place on a wheel of 6 D places -/
noncomputable def hueN (x y z : Nat) : Nat :=
  if x = mxN x y z then (if y < z then 6 * (mxN x y z - mnN x y z) - (z - y) else y - z)
  else if y = mxN x y z then 2 * (mxN x y z - mnN x y z) + z - x
  else 4 * (mxN x y z - mnN x y z) + x - y
theorem mx_facts (x y z : Nat) : x ≤ mxN x y z ∧ y ≤ mxN x y z ∧ z ≤ mxN x y z ∧ (x = mxN x y z ∨ y = mxN x y z ∨ z = mxN x y z) := by
  unfold mxN
  refine ⟨Nat.le_max_left .., Nat.le_trans (Nat.le_max_left y z) (Nat.le_max_right ..), Nat.le_trans (Nat.le_max_right y z) (Nat.le_max_right ..), ?_⟩
  rcases Nat.le_total (max y z) x with h | h
  · exact .inl (Nat.max_eq_left h).symm
  · rw [Nat.max_eq_right h]
    rcases Nat.le_total z y with k | k
    · exact .inr (.inl (Nat.max_eq_left k).symm)
    · exact .inr (.inr (Nat.max_eq_right k).symm)
theorem mn_facts (x y z : Nat) : mnN x y z ≤ x ∧ mnN x y z ≤ y ∧ mnN x y z ≤ z ∧ (x = mnN x y z ∨ y = mnN x y z ∨ z = mnN x y z) := by
  unfold mnN
  refine ⟨Nat.min_le_left .., Nat.le_trans (Nat.min_le_right ..) (Nat.min_le_left y z), Nat.le_trans (Nat.min_le_right ..) (Nat.min_le_right y z), ?_⟩
  rcases Nat.le_total x (min y z) with h | h
  · exact .inl (Nat.min_eq_left h).symm
  · rw [Nat.min_eq_right h]
    rcases Nat.le_total y z with k | k
    · exact .inr (.inl (Nat.min_eq_left k).symm)
    · exact .inr (.inr (Nat.min_eq_right k).symm)
theorem hue_d16 {x y z : Nat} (hx : x ≤ 16) (hy : y ≤ 16) (hz : z ≤ 16) (hD : mnN x y z < mxN x y z) :
    ∃ s p, s < 6 ∧ p ≤ mxN x y z - mnN x y z ∧ hueF (d16 (x : Int)) (d16 (y : Int)) (d16 (z : Int)) = hueT s p (mxN x y z - mnN x y z) ∧ hueNT s p (mxN x y z - mnN x y z) = hueN x y z := by
  have hM : mxN x y z ≤ 16 := by rcases (mx_facts x y z).2.2.2 with h | h | h <;> rw [← h] <;> assumption
  have q : ∀ a : Nat, a ≤ mxN x y z → qc (d16 (x : Int)) (d16 (y : Int)) (d16 (z : Int)) (d16 (a : Int)) = Qf (mxN x y z - a) (mxN x y z - mnN x y z) := by
    intro a ha
    unfold qc Qf
    rw [mx_d16 hx hy hz, mn_d16 hx hy hz]
    show Float64.div (Float64.sub (d16 (mxN x y z : Int)) _) (Float64.sub (d16 (mxN x y z : Int)) (d16 (mnN x y z : Int))) = _
    rw [sub_d16 hM ha, sub_d16 hM (Nat.le_of_lt hD)]
  have hr : hueR (d16 (x : Int)) (d16 (y : Int)) (d16 (z : Int)) =
      if x = mxN x y z then Float64.sub (Qf (mxN x y z - z) (mxN x y z - mnN x y z)) (Qf (mxN x y z - y) (mxN x y z - mnN x y z))
      else if y = mxN x y z then Float64.sub (Float64.add 4611686018427387904 (Qf (mxN x y z - x) (mxN x y z - mnN x y z))) (Qf (mxN x y z - z) (mxN x y z - mnN x y z))
      else Float64.sub (Float64.add 4616189618054758400 (Qf (mxN x y z - y) (mxN x y z - mnN x y z))) (Qf (mxN x y z - x) (mxN x y z - mnN x y z)) := by
    unfold hueR
    rw [q x (mx_facts x y z).1, q y (mx_facts x y z).2.1, q z (mx_facts x y z).2.2.1, mx_d16 hx hy hz]
    show (if (cmp (d16 (x : Int)) (d16 (mxN x y z : Int)) == some Ordering.eq) = true then _ else if (cmp (d16 (y : Int)) (d16 (mxN x y z : Int)) == some Ordering.eq) = true then _ else _) = _
    rw [eq_d16 (by exact Nat.not_le.mp (fun u9 => lin [_] [] (.l 1 (.c 64) (.v 0) (.l 1 (.v 0) (.c 16) .n)) (by kernel_rfl) u9 hx)) (by exact Nat.not_le.mp (fun u9 => lin [_] [] (.l 1 (.c 64) (.v 0) (.l 1 (.v 0) (.c 16) .n)) (by kernel_rfl) u9 hM)), eq_d16 (by exact Nat.not_le.mp (fun u9 => lin [_] [] (.l 1 (.c 64) (.v 0) (.l 1 (.v 0) (.c 16) .n)) (by kernel_rfl) u9 hy)) (by exact Nat.not_le.mp (fun u9 => lin [_] [] (.l 1 (.c 64) (.v 0) (.l 1 (.v 0) (.c 16) .n)) (by kernel_rfl) u9 hM))]
    simp only [decide_eq_true_eq]
  have key : ∃ s p, s < 6 ∧ p ≤ mxN x y z - mnN x y z ∧ hueR (d16 (x : Int)) (d16 (y : Int)) (d16 (z : Int)) = Hr s p (mxN x y z - mnN x y z) ∧ hueNT s p (mxN x y z - mnN x y z) = hueN x y z := by
    rw [hr]
    unfold hueN
    clear hr q hx hy hz hM
    obtain ⟨a1, a2, a3, a4⟩ := mx_facts x y z
    obtain ⟨b1, b2, b3, b4⟩ := mn_facts x y z
    generalize mxN x y z = M at *
    generalize mnN x y z = m at *
    by_cases h1 : x = M
    · rw [if_pos h1, if_pos h1]
      by_cases h2 : y < z
      · have e : y = m := by exact Or.elim b4 (fun q0 => Nat.le_antisymm (Nat.not_lt.mp (fun u9 => lin [_, _, _, _] [] (.l 0 (.a (.v 0) (.c 1)) (.v 1) (.l 1 (.a (.v 0) (.c 1)) (.v 2) (.e (-1) (.v 3) (.v 2) (.e 1 (.v 3) (.v 0) .n)))) (by kernel_rfl) u9 hD h1 q0)) (Nat.not_lt.mp (fun u9 => lin [_, _, _, _] [] (.l 0 (.a (.v 1) (.c 1)) (.v 0) (.l 1 (.a (.v 0) (.c 1)) (.v 2) (.e (-1) (.v 3) (.v 2) (.e 1 (.v 3) (.v 0) .n)))) (by kernel_rfl) u9 hD h1 q0))) (fun q0 => Or.elim q0 (fun q1 => linn [_, _] [] (.v 1) (.v 0) (.e (-1) (.v 1) (.v 0) .n) (by kernel_rfl) q1) (fun q1 => Nat.le_antisymm (Nat.not_lt.mp (fun u9 => lin [_, _, _] [] (.l 0 (.a (.v 0) (.c 1)) (.v 1) (.l 1 (.v 0) (.v 1) (.l 1 (.a (.v 1) (.c 1)) (.v 2) (.e 1 (.v 2) (.v 0) .n)))) (by kernel_rfl) u9 b2 h2 q1)) (Nat.not_lt.mp (fun u9 => lin [_, _] [] (.l 1 (.a (.v 1) (.c 1)) (.v 0) (.l 1 (.v 0) (.v 1) .n)) (by kernel_rfl) u9 b2))))
        rw [if_pos h2, show M - y = M - m by exact Or.elim (Nat.le_total (M) (y)) (fun q0 => linn [_, _] [] (.v 0) (.v 1) (.e (-1) (.v 0) (.c 0) (.e 1 (.v 1) (.c 0) .n)) (by kernel_rfl) (Nat.sub_eq_zero_of_le (Nat.not_lt.mp (fun u9 => lin [_, _] [] (.l 1 (.a (.v 0) (.c 1)) (.v 1) (.l 1 (.v 1) (.v 0) .n)) (by kernel_rfl) u9 q0))) (Nat.sub_eq_zero_of_le (Nat.not_lt.mp (fun u9 => lin [_, _, _] [] (.l 1 (.a (.v 1) (.c 1)) (.v 2) (.e 1 (.v 0) (.v 1) (.l 1 (.v 2) (.v 0) .n))) (by kernel_rfl) u9 e q0)))) (fun q0 => linn [_, _, _, _, _] [] (.v 3) (.v 4) (.e 1 (.v 0) (.v 1) (.e (-1) (.a (.v 3) (.v 0)) (.v 2) (.e 1 (.a (.v 4) (.v 1)) (.v 2) .n))) (by kernel_rfl) e (Nat.sub_add_cancel (Nat.not_lt.mp (fun u9 => lin [_, _] [] (.l 1 (.a (.v 1) (.c 1)) (.v 0) (.l 1 (.v 0) (.v 1) .n)) (by kernel_rfl) u9 q0))) (Nat.sub_add_cancel (Nat.not_lt.mp (fun u9 => lin [_, _, _] [] (.l 1 (.a (.v 2) (.c 1)) (.v 1) (.e (-1) (.v 0) (.v 1) (.l 1 (.v 0) (.v 2) .n))) (by kernel_rfl) u9 e q0))))]
        refine ⟨1, M - z, by exact Nat.not_le.mp (fun u9 => lin [] [] (.l 1 (.c 6) (.c 1) .n) (by kernel_rfl) u9), by exact Or.elim (Nat.le_total (M) (z)) (fun q0 => Nat.not_lt.mp (fun u9 => lin [_, _, _, _] [] (.l 1 (.a (.v 2) (.c 1)) (.v 3) (.l 1 (.a (.v 0) (.c 1)) (.v 1) (.e (-1) (.a (.v 2) (.v 0)) (.v 1) (.e 1 (.v 3) (.c 0) .n)))) (by kernel_rfl) u9 hD (Nat.sub_add_cancel (Nat.not_lt.mp (fun u9 => lin [_, _] [] (.l 1 (.a (.v 1) (.c 1)) (.v 0) (.l 1 (.a (.v 0) (.c 1)) (.v 1) .n)) (by kernel_rfl) u9 hD))) (Nat.sub_eq_zero_of_le (Nat.not_lt.mp (fun u9 => lin [_, _] [] (.l 1 (.a (.v 1) (.c 1)) (.v 0) (.l 1 (.v 0) (.v 1) .n)) (by kernel_rfl) u9 q0))))) (fun q0 => Nat.not_lt.mp (fun u9 => lin [_, _, _, _, _, _] [] (.l 1 (.a (.v 4) (.c 1)) (.v 5) (.l 1 (.a (.v 2) (.c 1)) (.v 3) (.e (-1) (.v 2) (.v 0) (.e (-1) (.a (.v 4) (.v 0)) (.v 1) (.e 1 (.a (.v 5) (.v 3)) (.v 1) .n))))) (by kernel_rfl) u9 h2 e (Nat.sub_add_cancel (Nat.not_lt.mp (fun u9 => lin [_, _] [] (.l 1 (.a (.v 1) (.c 1)) (.v 0) (.l 1 (.a (.v 0) (.c 1)) (.v 1) .n)) (by kernel_rfl) u9 hD))) (Nat.sub_add_cancel (Nat.not_lt.mp (fun u9 => lin [_, _] [] (.l 1 (.a (.v 0) (.c 1)) (.v 1) (.l 1 (.v 1) (.v 0) .n)) (by kernel_rfl) u9 q0))))), rfl, ?_⟩
        have e2 : z ≤ M := by assumption
        show (if _ then _ else _) = _
        rw [if_neg (by exact fun u9 => lin [_, _, _, _, _, _] [] (.e (-1) (.v 4) (.v 5) (.l 1 (.a (.v 3) (.c 1)) (.v 0) (.e (-1) (.v 3) (.v 2) (.e 1 (.a (.v 4) (.v 0)) (.v 1) (.e (-1) (.a (.v 5) (.v 2)) (.v 1) .n))))) (by kernel_rfl) u9 h2 e (Nat.sub_add_cancel (Nat.not_lt.mp (fun u9 => lin [_, _] [] (.l 1 (.a (.v 1) (.c 1)) (.v 0) (.l 1 (.v 0) (.v 1) .n)) (by kernel_rfl) u9 a3))) (Nat.sub_add_cancel (Nat.not_lt.mp (fun u9 => lin [_, _] [] (.l 1 (.a (.v 0) (.c 1)) (.v 1) (.l 1 (.a (.v 1) (.c 1)) (.v 0) .n)) (by kernel_rfl) u9 hD))))]
        exact linn [_, _, _, _, _, _, _, _] [] (.a (.m 5 (.v 4)) (.v 5)) (.v 6) (.e 1 (.v 3) (.v 2) (.e 1 (.a (.v 4) (.v 2)) (.v 1) (.e (-1) (.a (.v 5) (.v 0)) (.v 1) (.e 1 (.a (.v 6) (.v 7)) (.m 6 (.v 4)) (.e (-1) (.a (.v 7) (.v 3)) (.v 0) .n))))) (by kernel_rfl) e (Nat.sub_add_cancel (Nat.not_lt.mp (fun u9 => lin [_, _] [] (.l 1 (.a (.v 0) (.c 1)) (.v 1) (.l 1 (.a (.v 1) (.c 1)) (.v 0) .n)) (by kernel_rfl) u9 hD))) (Nat.sub_add_cancel (Nat.not_lt.mp (fun u9 => lin [_, _] [] (.l 1 (.a (.v 1) (.c 1)) (.v 0) (.l 1 (.v 0) (.v 1) .n)) (by kernel_rfl) u9 a3))) (Nat.sub_add_cancel (Nat.not_lt.mp (fun u9 => lin [_, _, _, _, _, _] [] (.l 1 (.a (.m 6 (.v 4)) (.c 1)) (.v 5) (.l 6 (.v 0) (.v 1) (.e (-6) (.v 3) (.v 2) (.e (-6) (.a (.v 4) (.v 2)) (.v 1) (.e 6 (.a (.v 5) (.v 3)) (.v 0) .n))))) (by kernel_rfl) u9 a3 e (Nat.sub_add_cancel (Nat.not_lt.mp (fun u9 => lin [_, _] [] (.l 1 (.a (.v 0) (.c 1)) (.v 1) (.l 1 (.a (.v 1) (.c 1)) (.v 0) .n)) (by kernel_rfl) u9 hD))) (Nat.sub_add_cancel (Nat.not_lt.mp (fun u9 => lin [_, _] [] (.l 1 (.a (.v 0) (.c 1)) (.v 1) (.l 1 (.a (.v 1) (.c 1)) (.v 0) .n)) (by kernel_rfl) u9 h2)))))) (Nat.sub_add_cancel (Nat.not_lt.mp (fun u9 => lin [_, _] [] (.l 1 (.a (.v 0) (.c 1)) (.v 1) (.l 1 (.a (.v 1) (.c 1)) (.v 0) .n)) (by kernel_rfl) u9 h2)))
      · have e : z = m := by exact Or.elim b4 (fun q0 => Nat.le_antisymm (Nat.not_lt.mp (fun u9 => lin [_, _, _, _] [] (.l 0 (.a (.v 0) (.c 1)) (.v 1) (.l 1 (.a (.v 0) (.c 1)) (.v 2) (.e (-1) (.v 3) (.v 2) (.e 1 (.v 3) (.v 0) .n)))) (by kernel_rfl) u9 hD h1 q0)) (Nat.not_lt.mp (fun u9 => lin [_, _, _, _] [] (.l 0 (.a (.v 1) (.c 1)) (.v 0) (.l 1 (.a (.v 0) (.c 1)) (.v 2) (.e (-1) (.v 3) (.v 2) (.e 1 (.v 3) (.v 0) .n)))) (by kernel_rfl) u9 hD h1 q0))) (fun q0 => Or.elim q0 (fun q1 => Nat.le_antisymm (Nat.not_lt.mp (fun u9 => lin [_, _, _] [] (.l 1 (.a (.v 0) (.c 1)) (.v 1) (.l 1 (.v 1) (.v 2) (.e 1 (.v 2) (.v 0) .n))) (by kernel_rfl) u9 (Nat.not_lt.mp h2) q1)) (Nat.not_lt.mp (fun u9 => lin [_, _] [] (.l 1 (.a (.v 1) (.c 1)) (.v 0) (.l 1 (.v 0) (.v 1) .n)) (by kernel_rfl) u9 b3))) (fun q1 => linn [_, _] [] (.v 1) (.v 0) (.e (-1) (.v 1) (.v 0) .n) (by kernel_rfl) q1))
        rw [if_neg h2, show M - z = M - m by exact Or.elim (Nat.le_total (M) (z)) (fun q0 => linn [_, _] [] (.v 0) (.v 1) (.e (-1) (.v 0) (.c 0) (.e 1 (.v 1) (.c 0) .n)) (by kernel_rfl) (Nat.sub_eq_zero_of_le (Nat.not_lt.mp (fun u9 => lin [_, _] [] (.l 1 (.a (.v 0) (.c 1)) (.v 1) (.l 1 (.v 1) (.v 0) .n)) (by kernel_rfl) u9 q0))) (Nat.sub_eq_zero_of_le (Nat.not_lt.mp (fun u9 => lin [_, _, _] [] (.l 1 (.a (.v 1) (.c 1)) (.v 2) (.e 1 (.v 0) (.v 1) (.l 1 (.v 2) (.v 0) .n))) (by kernel_rfl) u9 e q0)))) (fun q0 => linn [_, _, _, _, _] [] (.v 3) (.v 4) (.e 1 (.v 0) (.v 1) (.e (-1) (.a (.v 3) (.v 0)) (.v 2) (.e 1 (.a (.v 4) (.v 1)) (.v 2) .n))) (by kernel_rfl) e (Nat.sub_add_cancel (Nat.not_lt.mp (fun u9 => lin [_, _] [] (.l 1 (.a (.v 1) (.c 1)) (.v 0) (.l 1 (.v 0) (.v 1) .n)) (by kernel_rfl) u9 q0))) (Nat.sub_add_cancel (Nat.not_lt.mp (fun u9 => lin [_, _, _] [] (.l 1 (.a (.v 2) (.c 1)) (.v 1) (.e (-1) (.v 0) (.v 1) (.l 1 (.v 0) (.v 2) .n))) (by kernel_rfl) u9 e q0))))]
        have e2 : y ≤ M := by assumption
        refine ⟨0, M - y, by exact Nat.not_le.mp (fun u9 => lin [] [] (.l 1 (.c 6) (.c 0) .n) (by kernel_rfl) u9), by exact Nat.not_lt.mp (fun u9 => lin [_, _, _, _, _, _] [] (.l 1 (.a (.v 4) (.c 1)) (.v 5) (.l 1 (.v 2) (.v 0) (.e (-1) (.v 2) (.v 3) (.e (-1) (.a (.v 4) (.v 3)) (.v 1) (.e 1 (.a (.v 5) (.v 0)) (.v 1) .n))))) (by kernel_rfl) u9 (Nat.not_lt.mp h2) e (Nat.sub_add_cancel (Nat.not_lt.mp (fun u9 => lin [_, _, _, _] [] (.l 1 (.a (.v 1) (.c 1)) (.v 3) (.l 1 (.v 0) (.v 1) (.l 1 (.v 2) (.v 0) (.e (-1) (.v 2) (.v 3) .n)))) (by kernel_rfl) u9 a2 (Nat.not_lt.mp h2) e))) (Nat.sub_add_cancel (Nat.not_lt.mp (fun u9 => lin [_, _] [] (.l 1 (.a (.v 1) (.c 1)) (.v 0) (.l 1 (.v 0) (.v 1) .n)) (by kernel_rfl) u9 a2)))), rfl, ?_⟩
        show M - m - (M - y) = _
        exact linn [_, _, _, _, _, _, _, _] [] (.v 4) (.v 5) (.e (-1) (.v 2) (.v 3) (.e (-1) (.a (.v 4) (.v 6)) (.v 7) (.e 1 (.a (.v 5) (.v 2)) (.v 0) (.e 1 (.a (.v 6) (.v 0)) (.v 1) (.e (-1) (.a (.v 7) (.v 3)) (.v 1) .n))))) (by kernel_rfl) e (Nat.sub_add_cancel (Nat.not_lt.mp (fun u9 => lin [_, _, _, _, _, _] [] (.l 1 (.a (.v 4) (.c 1)) (.v 5) (.l 1 (.v 2) (.v 0) (.e (-1) (.v 2) (.v 3) (.e (-1) (.a (.v 4) (.v 3)) (.v 1) (.e 1 (.a (.v 5) (.v 0)) (.v 1) .n))))) (by kernel_rfl) u9 (Nat.not_lt.mp h2) e (Nat.sub_add_cancel (Nat.not_lt.mp (fun u9 => lin [_, _, _, _] [] (.l 1 (.a (.v 1) (.c 1)) (.v 3) (.l 1 (.v 0) (.v 1) (.l 1 (.v 2) (.v 0) (.e (-1) (.v 2) (.v 3) .n)))) (by kernel_rfl) u9 a2 (Nat.not_lt.mp h2) e))) (Nat.sub_add_cancel (Nat.not_lt.mp (fun u9 => lin [_, _] [] (.l 1 (.a (.v 1) (.c 1)) (.v 0) (.l 1 (.v 0) (.v 1) .n)) (by kernel_rfl) u9 a2)))))) (Nat.sub_add_cancel (Nat.not_lt.mp (fun u9 => lin [_, _] [] (.l 1 (.a (.v 0) (.c 1)) (.v 1) (.l 1 (.v 1) (.v 0) .n)) (by kernel_rfl) u9 (Nat.not_lt.mp h2)))) (Nat.sub_add_cancel (Nat.not_lt.mp (fun u9 => lin [_, _] [] (.l 1 (.a (.v 1) (.c 1)) (.v 0) (.l 1 (.v 0) (.v 1) .n)) (by kernel_rfl) u9 a2))) (Nat.sub_add_cancel (Nat.not_lt.mp (fun u9 => lin [_, _, _, _] [] (.l 1 (.a (.v 1) (.c 1)) (.v 3) (.l 1 (.v 0) (.v 1) (.l 1 (.v 2) (.v 0) (.e (-1) (.v 2) (.v 3) .n)))) (by kernel_rfl) u9 a2 (Nat.not_lt.mp h2) e)))
    · rw [if_neg h1, if_neg h1]
      by_cases h2 : y = M
      · rw [if_pos h2, if_pos h2]
        by_cases h3 : x < z
        · have e : x = m := by exact Or.elim b4 (fun q0 => linn [_, _] [] (.v 1) (.v 0) (.e (-1) (.v 1) (.v 0) .n) (by kernel_rfl) q0) (fun q0 => Or.elim q0 (fun q1 => Nat.le_antisymm (Nat.not_lt.mp (fun u9 => lin [_, _, _, _] [] (.l 0 (.a (.v 0) (.c 1)) (.v 1) (.l 1 (.a (.v 0) (.c 1)) (.v 2) (.e (-1) (.v 3) (.v 2) (.e 1 (.v 3) (.v 0) .n)))) (by kernel_rfl) u9 hD h2 q1)) (Nat.not_lt.mp (fun u9 => lin [_, _, _, _] [] (.l 0 (.a (.v 1) (.c 1)) (.v 0) (.l 1 (.a (.v 0) (.c 1)) (.v 2) (.e (-1) (.v 3) (.v 2) (.e 1 (.v 3) (.v 0) .n)))) (by kernel_rfl) u9 hD h2 q1))) (fun q1 => Nat.le_antisymm (Nat.not_lt.mp (fun u9 => lin [_, _, _] [] (.l 0 (.a (.v 0) (.c 1)) (.v 1) (.l 1 (.v 0) (.v 1) (.l 1 (.a (.v 1) (.c 1)) (.v 2) (.e 1 (.v 2) (.v 0) .n)))) (by kernel_rfl) u9 b1 h3 q1)) (Nat.not_lt.mp (fun u9 => lin [_, _] [] (.l 1 (.a (.v 1) (.c 1)) (.v 0) (.l 1 (.v 0) (.v 1) .n)) (by kernel_rfl) u9 b1))))
          have e2 : z ≤ M := by assumption
          rw [show M - x = M - m by exact Or.elim (Nat.le_total (M) (x)) (fun q0 => linn [_, _] [] (.v 0) (.v 1) (.e (-1) (.v 0) (.c 0) (.e 1 (.v 1) (.c 0) .n)) (by kernel_rfl) (Nat.sub_eq_zero_of_le (Nat.not_lt.mp (fun u9 => lin [_, _] [] (.l 1 (.a (.v 0) (.c 1)) (.v 1) (.l 1 (.v 1) (.v 0) .n)) (by kernel_rfl) u9 q0))) (Nat.sub_eq_zero_of_le (Nat.not_lt.mp (fun u9 => lin [_, _, _] [] (.l 1 (.a (.v 1) (.c 1)) (.v 2) (.e 1 (.v 0) (.v 1) (.l 1 (.v 2) (.v 0) .n))) (by kernel_rfl) u9 e q0)))) (fun q0 => linn [_, _, _, _, _] [] (.v 3) (.v 4) (.e 1 (.v 0) (.v 1) (.e (-1) (.a (.v 3) (.v 0)) (.v 2) (.e 1 (.a (.v 4) (.v 1)) (.v 2) .n))) (by kernel_rfl) e (Nat.sub_add_cancel (Nat.not_lt.mp (fun u9 => lin [_, _] [] (.l 1 (.a (.v 1) (.c 1)) (.v 0) (.l 1 (.v 0) (.v 1) .n)) (by kernel_rfl) u9 q0))) (Nat.sub_add_cancel (Nat.not_lt.mp (fun u9 => lin [_, _, _] [] (.l 1 (.a (.v 2) (.c 1)) (.v 1) (.e (-1) (.v 0) (.v 1) (.l 1 (.v 0) (.v 2) .n))) (by kernel_rfl) u9 e q0))))]
          refine ⟨3, M - z, by exact Nat.not_le.mp (fun u9 => lin [] [] (.l 1 (.c 6) (.c 3) .n) (by kernel_rfl) u9), by exact Or.elim (Nat.lt_or_gt_of_ne h1) (fun q0 => Or.elim (Nat.le_total (M) (z)) (fun q2 => Nat.not_lt.mp (fun u9 => lin [_, _, _, _, _] [] (.l 1 (.a (.v 3) (.c 1)) (.v 4) (.e (-1) (.v 0) (.v 2) (.l 1 (.a (.v 0) (.c 1)) (.v 1) (.e (-1) (.a (.v 3) (.v 2)) (.v 1) (.e 1 (.v 4) (.c 0) .n))))) (by kernel_rfl) u9 e q0 (Nat.sub_add_cancel (Nat.not_lt.mp (fun u9 => lin [_, _, _] [] (.l 1 (.a (.v 1) (.c 1)) (.v 2) (.l 1 (.v 0) (.v 1) (.e (-1) (.v 0) (.v 2) .n))) (by kernel_rfl) u9 a1 e))) (Nat.sub_eq_zero_of_le (Nat.not_lt.mp (fun u9 => lin [_, _] [] (.l 1 (.a (.v 1) (.c 1)) (.v 0) (.l 1 (.v 0) (.v 1) .n)) (by kernel_rfl) u9 q2))))) (fun q2 => Nat.not_lt.mp (fun u9 => lin [_, _, _, _, _, _] [] (.l 1 (.a (.v 4) (.c 1)) (.v 5) (.l 1 (.a (.v 0) (.c 1)) (.v 2) (.e (-1) (.v 0) (.v 3) (.e (-1) (.a (.v 4) (.v 3)) (.v 1) (.e 1 (.a (.v 5) (.v 2)) (.v 1) .n))))) (by kernel_rfl) u9 h3 e (Nat.sub_add_cancel (Nat.not_lt.mp (fun u9 => lin [_, _, _] [] (.l 1 (.a (.v 1) (.c 1)) (.v 2) (.l 1 (.v 0) (.v 1) (.e (-1) (.v 0) (.v 2) .n))) (by kernel_rfl) u9 a1 e))) (Nat.sub_add_cancel (Nat.not_lt.mp (fun u9 => lin [_, _] [] (.l 1 (.a (.v 0) (.c 1)) (.v 1) (.l 1 (.v 1) (.v 0) .n)) (by kernel_rfl) u9 q2)))))) (fun q0 => Nat.not_lt.mp (fun u9 => lin [_, _, _, _, _, _] [] (.l 1 (.a (.v 4) (.c 1)) (.v 5) (.l 1 (.a (.v 0) (.c 1)) (.v 2) (.e (-1) (.v 0) (.v 3) (.e (-1) (.a (.v 4) (.v 3)) (.v 1) (.e 1 (.a (.v 5) (.v 2)) (.v 1) .n))))) (by kernel_rfl) u9 h3 e (Nat.sub_add_cancel (Nat.not_lt.mp (fun u9 => lin [_, _, _] [] (.l 1 (.a (.v 1) (.c 1)) (.v 2) (.l 1 (.v 0) (.v 1) (.e (-1) (.v 0) (.v 2) .n))) (by kernel_rfl) u9 a1 e))) (Nat.sub_add_cancel (Nat.not_lt.mp (fun u9 => lin [_, _, _] [] (.l 0 (.a (.v 1) (.c 1)) (.v 2) (.l 1 (.v 0) (.v 1) (.l 1 (.a (.v 1) (.c 1)) (.v 0) .n))) (by kernel_rfl) u9 a1 q0))))), rfl, ?_⟩
          show 3 * (M - m) - (M - z) = _
          exact linn [_, _, _, _, _, _, _, _] [] (.v 4) (.v 5) (.e (-1) (.v 0) (.v 3) (.e (-1) (.a (.v 4) (.v 6)) (.m 3 (.v 7)) (.e 1 (.a (.v 5) (.v 0)) (.a (.m 2 (.v 7)) (.v 2)) (.e 1 (.a (.v 6) (.v 2)) (.v 1) (.e (-1) (.a (.v 7) (.v 3)) (.v 1) .n))))) (by kernel_rfl) e (Nat.sub_add_cancel (Nat.not_lt.mp (fun u9 => lin [_, _, _, _, _, _] [] (.l 1 (.a (.m 3 (.v 4)) (.c 1)) (.v 5) (.l 3 (.a (.v 0) (.c 1)) (.v 2) (.e (-3) (.v 0) (.v 3) (.e (-3) (.a (.v 4) (.v 3)) (.v 1) (.e 3 (.a (.v 5) (.v 2)) (.v 1) .n))))) (by kernel_rfl) u9 h3 e (Nat.sub_add_cancel (Nat.not_lt.mp (fun u9 => lin [_, _, _] [] (.l 1 (.a (.v 1) (.c 1)) (.v 2) (.l 1 (.v 0) (.v 1) (.e (-1) (.v 0) (.v 2) .n))) (by kernel_rfl) u9 a1 e))) (Nat.sub_add_cancel (Nat.not_lt.mp (fun u9 => lin [_, _] [] (.l 1 (.a (.v 0) (.c 1)) (.v 1) (.l 1 (.v 1) (.v 0) .n)) (by kernel_rfl) u9 a3)))))) (Nat.sub_add_cancel (Nat.not_lt.mp (fun u9 => lin [_, _, _] [] (.l 1 (.a (.a (.m 2 (.v 2)) (.v 1)) (.c 1)) (.v 0) (.l 1 (.a (.v 0) (.c 1)) (.v 1) .n)) (by kernel_rfl) u9 h3))) (Nat.sub_add_cancel (Nat.not_lt.mp (fun u9 => lin [_, _] [] (.l 1 (.a (.v 0) (.c 1)) (.v 1) (.l 1 (.v 1) (.v 0) .n)) (by kernel_rfl) u9 a3))) (Nat.sub_add_cancel (Nat.not_lt.mp (fun u9 => lin [_, _, _] [] (.l 1 (.a (.v 1) (.c 1)) (.v 2) (.l 1 (.v 0) (.v 1) (.e (-1) (.v 0) (.v 2) .n))) (by kernel_rfl) u9 a1 e)))
        · have e : z = m := by exact Or.elim b4 (fun q0 => Nat.le_antisymm (Nat.not_lt.mp (fun u9 => lin [_, _, _] [] (.l 1 (.a (.v 0) (.c 1)) (.v 1) (.l 1 (.v 1) (.v 2) (.e 1 (.v 2) (.v 0) .n))) (by kernel_rfl) u9 (Nat.not_lt.mp h3) q0)) (Nat.not_lt.mp (fun u9 => lin [_, _] [] (.l 1 (.a (.v 1) (.c 1)) (.v 0) (.l 1 (.v 0) (.v 1) .n)) (by kernel_rfl) u9 b3))) (fun q0 => Or.elim q0 (fun q1 => Nat.le_antisymm (Nat.not_lt.mp (fun u9 => lin [_, _, _, _] [] (.l 0 (.a (.v 0) (.c 1)) (.v 1) (.l 1 (.a (.v 0) (.c 1)) (.v 2) (.e (-1) (.v 3) (.v 2) (.e 1 (.v 3) (.v 0) .n)))) (by kernel_rfl) u9 hD h2 q1)) (Nat.not_lt.mp (fun u9 => lin [_, _, _, _] [] (.l 0 (.a (.v 1) (.c 1)) (.v 0) (.l 1 (.a (.v 0) (.c 1)) (.v 2) (.e (-1) (.v 3) (.v 2) (.e 1 (.v 3) (.v 0) .n)))) (by kernel_rfl) u9 hD h2 q1))) (fun q1 => linn [_, _] [] (.v 1) (.v 0) (.e (-1) (.v 1) (.v 0) .n) (by kernel_rfl) q1))
          have e2 : x ≤ M := by assumption
          rw [show M - z = M - m by exact Or.elim (Nat.le_total (M) (z)) (fun q0 => linn [_, _] [] (.v 0) (.v 1) (.e (-1) (.v 0) (.c 0) (.e 1 (.v 1) (.c 0) .n)) (by kernel_rfl) (Nat.sub_eq_zero_of_le (Nat.not_lt.mp (fun u9 => lin [_, _] [] (.l 1 (.a (.v 0) (.c 1)) (.v 1) (.l 1 (.v 1) (.v 0) .n)) (by kernel_rfl) u9 q0))) (Nat.sub_eq_zero_of_le (Nat.not_lt.mp (fun u9 => lin [_, _, _] [] (.l 1 (.a (.v 1) (.c 1)) (.v 2) (.e 1 (.v 0) (.v 1) (.l 1 (.v 2) (.v 0) .n))) (by kernel_rfl) u9 e q0)))) (fun q0 => linn [_, _, _, _, _] [] (.v 3) (.v 4) (.e 1 (.v 0) (.v 1) (.e (-1) (.a (.v 3) (.v 0)) (.v 2) (.e 1 (.a (.v 4) (.v 1)) (.v 2) .n))) (by kernel_rfl) e (Nat.sub_add_cancel (Nat.not_lt.mp (fun u9 => lin [_, _] [] (.l 1 (.a (.v 1) (.c 1)) (.v 0) (.l 1 (.v 0) (.v 1) .n)) (by kernel_rfl) u9 q0))) (Nat.sub_add_cancel (Nat.not_lt.mp (fun u9 => lin [_, _, _] [] (.l 1 (.a (.v 2) (.c 1)) (.v 1) (.e (-1) (.v 0) (.v 1) (.l 1 (.v 0) (.v 2) .n))) (by kernel_rfl) u9 e q0))))]
          refine ⟨2, M - x, by exact Nat.not_le.mp (fun u9 => lin [] [] (.l 1 (.c 6) (.c 2) .n) (by kernel_rfl) u9), by exact Nat.not_lt.mp (fun u9 => lin [_, _, _, _, _, _] [] (.l 1 (.a (.v 4) (.c 1)) (.v 5) (.l 1 (.v 2) (.v 0) (.e (-1) (.v 2) (.v 3) (.e (-1) (.a (.v 4) (.v 3)) (.v 1) (.e 1 (.a (.v 5) (.v 0)) (.v 1) .n))))) (by kernel_rfl) u9 (Nat.not_lt.mp h3) e (Nat.sub_add_cancel (Nat.not_lt.mp (fun u9 => lin [_, _, _, _] [] (.l 1 (.a (.v 1) (.c 1)) (.v 3) (.l 1 (.v 0) (.v 1) (.l 1 (.v 2) (.v 0) (.e (-1) (.v 2) (.v 3) .n)))) (by kernel_rfl) u9 a1 (Nat.not_lt.mp h3) e))) (Nat.sub_add_cancel (Nat.not_lt.mp (fun u9 => lin [_, _] [] (.l 1 (.a (.v 1) (.c 1)) (.v 0) (.l 1 (.v 0) (.v 1) .n)) (by kernel_rfl) u9 a1)))), rfl, ?_⟩
          show (M - m) + (M - x) = _
          exact linn [_, _, _, _, _, _, _] [] (.a (.v 4) (.v 5)) (.v 6) (.e 1 (.v 2) (.v 3) (.e 1 (.a (.v 4) (.v 3)) (.v 1) (.e (-1) (.a (.v 5) (.v 0)) (.v 1) (.e 1 (.a (.v 6) (.v 0)) (.a (.m 2 (.v 4)) (.v 2)) .n)))) (by kernel_rfl) e (Nat.sub_add_cancel (Nat.not_lt.mp (fun u9 => lin [_, _, _, _] [] (.l 1 (.a (.v 1) (.c 1)) (.v 3) (.l 1 (.v 0) (.v 1) (.l 1 (.v 2) (.v 0) (.e (-1) (.v 2) (.v 3) .n)))) (by kernel_rfl) u9 a1 (Nat.not_lt.mp h3) e))) (Nat.sub_add_cancel (Nat.not_lt.mp (fun u9 => lin [_, _] [] (.l 1 (.a (.v 1) (.c 1)) (.v 0) (.l 1 (.v 0) (.v 1) .n)) (by kernel_rfl) u9 a1))) (Nat.sub_add_cancel (Nat.not_lt.mp (fun u9 => lin [_, _, _, _, _] [] (.l 1 (.a (.a (.m 2 (.v 4)) (.v 2)) (.c 1)) (.v 0) (.l 1 (.v 0) (.v 1) (.e (-1) (.v 2) (.v 3) (.e (-1) (.a (.v 4) (.v 3)) (.v 1) .n)))) (by kernel_rfl) u9 a1 e (Nat.sub_add_cancel (Nat.not_lt.mp (fun u9 => lin [_, _, _, _] [] (.l 1 (.a (.v 1) (.c 1)) (.v 3) (.l 1 (.v 0) (.v 1) (.l 1 (.v 2) (.v 0) (.e (-1) (.v 2) (.v 3) .n)))) (by kernel_rfl) u9 a1 (Nat.not_lt.mp h3) e))))))
      · rw [if_neg h2, if_neg h2]
        have e0 : z = M := by lia
        by_cases h3 : y < x
        · have e : y = m := by lia
          have e2 : x ≤ M := by assumption
          rw [show M - y = M - m by exact Or.elim (Nat.le_total (M) (y)) (fun q0 => linn [_, _] [] (.v 0) (.v 1) (.e (-1) (.v 0) (.c 0) (.e 1 (.v 1) (.c 0) .n)) (by kernel_rfl) (Nat.sub_eq_zero_of_le (Nat.not_lt.mp (fun u9 => lin [_, _] [] (.l 1 (.a (.v 0) (.c 1)) (.v 1) (.l 1 (.v 1) (.v 0) .n)) (by kernel_rfl) u9 q0))) (Nat.sub_eq_zero_of_le (Nat.not_lt.mp (fun u9 => lin [_, _, _] [] (.l 1 (.a (.v 1) (.c 1)) (.v 2) (.e 1 (.v 0) (.v 1) (.l 1 (.v 2) (.v 0) .n))) (by kernel_rfl) u9 e q0)))) (fun q0 => linn [_, _, _, _, _] [] (.v 3) (.v 4) (.e 1 (.v 0) (.v 1) (.e (-1) (.a (.v 3) (.v 0)) (.v 2) (.e 1 (.a (.v 4) (.v 1)) (.v 2) .n))) (by kernel_rfl) e (Nat.sub_add_cancel (Nat.not_lt.mp (fun u9 => lin [_, _] [] (.l 1 (.a (.v 1) (.c 1)) (.v 0) (.l 1 (.v 0) (.v 1) .n)) (by kernel_rfl) u9 q0))) (Nat.sub_add_cancel (Nat.not_lt.mp (fun u9 => lin [_, _, _] [] (.l 1 (.a (.v 2) (.c 1)) (.v 1) (.e (-1) (.v 0) (.v 1) (.l 1 (.v 0) (.v 2) .n))) (by kernel_rfl) u9 e q0))))]
          refine ⟨5, M - x, by exact Nat.not_le.mp (fun u9 => lin [] [] (.l 1 (.c 6) (.c 5) .n) (by kernel_rfl) u9), by exact Nat.not_lt.mp (fun u9 => lin [_, _, _, _, _, _] [] (.l 1 (.a (.v 4) (.c 1)) (.v 5) (.l 1 (.a (.v 2) (.c 1)) (.v 0) (.e (-1) (.v 2) (.v 3) (.e (-1) (.a (.v 4) (.v 3)) (.v 1) (.e 1 (.a (.v 5) (.v 0)) (.v 1) .n))))) (by kernel_rfl) u9 h3 e (Nat.sub_add_cancel (Nat.not_lt.mp (fun u9 => lin [_, _, _, _] [] (.l 1 (.a (.v 1) (.c 1)) (.v 3) (.l 1 (.v 0) (.v 1) (.l 1 (.a (.v 2) (.c 1)) (.v 0) (.e (-1) (.v 2) (.v 3) .n)))) (by kernel_rfl) u9 a1 h3 e))) (Nat.sub_add_cancel (Nat.not_lt.mp (fun u9 => lin [_, _] [] (.l 1 (.a (.v 1) (.c 1)) (.v 0) (.l 1 (.v 0) (.v 1) .n)) (by kernel_rfl) u9 a1)))), rfl, ?_⟩
          show 5 * (M - m) - (M - x) = _
          exact linn [_, _, _, _, _, _, _, _] [] (.v 4) (.v 5) (.e (-1) (.v 2) (.v 3) (.e (-1) (.a (.v 4) (.v 6)) (.m 5 (.v 7)) (.e 1 (.a (.v 5) (.v 2)) (.a (.m 4 (.v 7)) (.v 0)) (.e 1 (.a (.v 6) (.v 0)) (.v 1) (.e (-1) (.a (.v 7) (.v 3)) (.v 1) .n))))) (by kernel_rfl) e (Nat.sub_add_cancel (Nat.not_lt.mp (fun u9 => lin [_, _, _, _, _, _] [] (.l 1 (.a (.m 5 (.v 4)) (.c 1)) (.v 5) (.l 5 (.a (.v 2) (.c 1)) (.v 0) (.e (-5) (.v 2) (.v 3) (.e (-5) (.a (.v 4) (.v 3)) (.v 1) (.e 5 (.a (.v 5) (.v 0)) (.v 1) .n))))) (by kernel_rfl) u9 h3 e (Nat.sub_add_cancel (Nat.not_lt.mp (fun u9 => lin [_, _, _, _] [] (.l 1 (.a (.v 1) (.c 1)) (.v 3) (.l 1 (.v 0) (.v 1) (.l 1 (.a (.v 2) (.c 1)) (.v 0) (.e (-1) (.v 2) (.v 3) .n)))) (by kernel_rfl) u9 a1 h3 e))) (Nat.sub_add_cancel (Nat.not_lt.mp (fun u9 => lin [_, _] [] (.l 1 (.a (.v 1) (.c 1)) (.v 0) (.l 1 (.v 0) (.v 1) .n)) (by kernel_rfl) u9 a1)))))) (Nat.sub_add_cancel (Nat.not_lt.mp (fun u9 => lin [_, _, _] [] (.l 1 (.a (.a (.m 4 (.v 2)) (.v 0)) (.c 1)) (.v 1) (.l 1 (.a (.v 1) (.c 1)) (.v 0) .n)) (by kernel_rfl) u9 h3))) (Nat.sub_add_cancel (Nat.not_lt.mp (fun u9 => lin [_, _] [] (.l 1 (.a (.v 1) (.c 1)) (.v 0) (.l 1 (.v 0) (.v 1) .n)) (by kernel_rfl) u9 a1))) (Nat.sub_add_cancel (Nat.not_lt.mp (fun u9 => lin [_, _, _, _] [] (.l 1 (.a (.v 1) (.c 1)) (.v 3) (.l 1 (.v 0) (.v 1) (.l 1 (.a (.v 2) (.c 1)) (.v 0) (.e (-1) (.v 2) (.v 3) .n)))) (by kernel_rfl) u9 a1 h3 e)))
        · have e : x = m := by lia
          have e2 : y ≤ M := by assumption
          rw [show M - x = M - m by exact Or.elim (Nat.le_total (M) (x)) (fun q0 => linn [_, _] [] (.v 0) (.v 1) (.e (-1) (.v 0) (.c 0) (.e 1 (.v 1) (.c 0) .n)) (by kernel_rfl) (Nat.sub_eq_zero_of_le (Nat.not_lt.mp (fun u9 => lin [_, _] [] (.l 1 (.a (.v 0) (.c 1)) (.v 1) (.l 1 (.v 1) (.v 0) .n)) (by kernel_rfl) u9 q0))) (Nat.sub_eq_zero_of_le (Nat.not_lt.mp (fun u9 => lin [_, _, _] [] (.l 1 (.a (.v 1) (.c 1)) (.v 2) (.e 1 (.v 0) (.v 1) (.l 1 (.v 2) (.v 0) .n))) (by kernel_rfl) u9 e q0)))) (fun q0 => linn [_, _, _, _, _] [] (.v 3) (.v 4) (.e 1 (.v 0) (.v 1) (.e (-1) (.a (.v 3) (.v 0)) (.v 2) (.e 1 (.a (.v 4) (.v 1)) (.v 2) .n))) (by kernel_rfl) e (Nat.sub_add_cancel (Nat.not_lt.mp (fun u9 => lin [_, _] [] (.l 1 (.a (.v 1) (.c 1)) (.v 0) (.l 1 (.v 0) (.v 1) .n)) (by kernel_rfl) u9 q0))) (Nat.sub_add_cancel (Nat.not_lt.mp (fun u9 => lin [_, _, _] [] (.l 1 (.a (.v 2) (.c 1)) (.v 1) (.e (-1) (.v 0) (.v 1) (.l 1 (.v 0) (.v 2) .n))) (by kernel_rfl) u9 e q0))))]
          refine ⟨4, M - y, by exact Nat.not_le.mp (fun u9 => lin [] [] (.l 1 (.c 6) (.c 4) .n) (by kernel_rfl) u9), by exact Or.elim a4 (fun q0 => Nat.not_lt.mp (fun u9 => lin [_, _, _, _, _] [] (.l 1 (.a (.v 3) (.c 1)) (.v 4) (.e (-1) (.v 0) (.v 2) (.e 1 (.v 0) (.v 1) (.e (-1) (.a (.v 3) (.v 2)) (.v 1) (.e 1 (.v 4) (.c 0) .n))))) (by kernel_rfl) u9 e q0 (Nat.sub_add_cancel (Nat.not_lt.mp (fun u9 => lin [_, _, _] [] (.l 1 (.a (.v 1) (.c 1)) (.v 2) (.e (-1) (.v 0) (.v 2) (.e 1 (.v 0) (.v 1) .n))) (by kernel_rfl) u9 e q0))) (Nat.sub_eq_zero_of_le (Nat.not_lt.mp (fun u9 => lin [_, _, _] [] (.l 1 (.a (.v 2) (.c 1)) (.v 1) (.l 1 (.v 0) (.v 2) (.e (-1) (.v 0) (.v 1) .n))) (by kernel_rfl) u9 (Nat.not_lt.mp h3) q0))))) (fun q0 => Or.elim (Nat.lt_or_gt_of_ne h2) (fun q2 => Nat.not_lt.mp (fun u9 => lin [_, _, _, _, _, _] [] (.l 1 (.a (.v 4) (.c 1)) (.v 5) (.l 1 (.v 0) (.v 2) (.e (-1) (.v 0) (.v 3) (.e (-1) (.a (.v 4) (.v 3)) (.v 1) (.e 1 (.a (.v 5) (.v 2)) (.v 1) .n))))) (by kernel_rfl) u9 (Nat.not_lt.mp h3) e (Nat.sub_add_cancel (Nat.not_lt.mp (fun u9 => lin [_, _, _] [] (.l 1 (.a (.v 1) (.c 1)) (.v 2) (.l 1 (.v 0) (.v 1) (.e (-1) (.v 0) (.v 2) .n))) (by kernel_rfl) u9 a1 e))) (Nat.sub_add_cancel (Nat.not_lt.mp (fun u9 => lin [_, _] [] (.l 1 (.a (.v 0) (.c 1)) (.v 1) (.l 1 (.a (.v 1) (.c 1)) (.v 0) .n)) (by kernel_rfl) u9 q2))))) (fun q2 => Nat.not_lt.mp (fun u9 => lin [_, _] [] (.l 1 (.a (.v 0) (.c 1)) (.v 1) (.e 1 (.v 1) (.c 0) .n)) (by kernel_rfl) u9 (Nat.sub_eq_zero_of_le (Nat.not_lt.mp (fun u9 => lin [_, _] [] (.l 1 (.a (.v 1) (.c 1)) (.v 0) (.l 1 (.a (.v 0) (.c 1)) (.v 1) .n)) (by kernel_rfl) u9 q2)))))), rfl, ?_⟩
          show 3 * (M - m) + (M - y) = _
          exact linn [_, _, _, _, _, _, _] [] (.a (.m 3 (.v 4)) (.v 5)) (.v 6) (.e 1 (.v 0) (.v 3) (.e 1 (.a (.v 4) (.v 3)) (.v 1) (.e (-1) (.a (.v 5) (.v 2)) (.v 1) (.e 1 (.a (.v 6) (.v 2)) (.a (.m 4 (.v 4)) (.v 0)) .n)))) (by kernel_rfl) e (Nat.sub_add_cancel (Nat.not_lt.mp (fun u9 => lin [_, _, _] [] (.l 1 (.a (.v 1) (.c 1)) (.v 2) (.l 1 (.v 0) (.v 1) (.e (-1) (.v 0) (.v 2) .n))) (by kernel_rfl) u9 a1 e))) (Nat.sub_add_cancel (Nat.not_lt.mp (fun u9 => lin [_, _] [] (.l 1 (.a (.v 0) (.c 1)) (.v 1) (.l 1 (.v 1) (.v 0) .n)) (by kernel_rfl) u9 a2))) (Nat.sub_add_cancel (Nat.not_lt.mp (fun u9 => lin [_, _, _, _, _] [] (.l 1 (.a (.a (.m 4 (.v 4)) (.v 0)) (.c 1)) (.v 2) (.l 1 (.v 2) (.v 1) (.e (-1) (.v 0) (.v 3) (.e (-1) (.a (.v 4) (.v 3)) (.v 1) .n)))) (by kernel_rfl) u9 a2 e (Nat.sub_add_cancel (Nat.not_lt.mp (fun u9 => lin [_, _, _] [] (.l 1 (.a (.v 1) (.c 1)) (.v 2) (.l 1 (.v 0) (.v 1) (.e (-1) (.v 0) (.v 2) .n))) (by kernel_rfl) u9 a1 e))))))
  obtain ⟨s, p, h1, h2, h3, h4⟩ := key
  refine ⟨s, p, h1, h2, ?_, h4⟩
  unfold hueF hueT
  rw [h3]
theorem row_of {s : Nat} (hs : s < 6) : rowH s = true := by
  match s, hs with
  | 0, _ => exact row0
  | 1, _ => exact row1
  | 2, _ => exact row2
  | 3, _ => exact row3
  | 4, _ => exact row4
  | 5, _ => exact row5
theorem ap_from {x : UInt64} {c n K e T : Nat} (hT : PP = (T : Int)) (hf : Fn x) (h : (val x * (c : Int) - ((n * T : Nat) : Int)).natAbs * K ≤ e * T) : Ap ((c : Int) * (K : Int)) x ((n : Int) * (K : Int)) (e : Int) := by
  have e1 : val x * ((c : Int) * (K : Int)) - (n : Int) * (K : Int) * PP = (val x * (c : Int) - ((n * T : Nat) : Int)) * (K : Int) := by
    rw [Int.sub_mul, Int.natCast_mul, hT, Int.mul_assoc (val x)]
    congr 1
    ac_rfl
  have h' : ((val x * (c : Int) - ((n * T : Nat) : Int)).natAbs : Int) * (K : Int) ≤ (e : Int) * PP := by rw [hT]; exact_mod_cast h
  have u : (val x * (c : Int) - ((n * T : Nat) : Int)) * (K : Int) ≤ ((val x * (c : Int) - ((n * T : Nat) : Int)).natAbs : Int) * (K : Int) := Int.mul_le_mul_of_nonneg_right (by exact Int.not_lt.mp (fun u9 => lin [_, _] [_] (.L 1 (.a (.z (.v 0)) (.i 1)) (.s (.v 0) (.z (.v 1))) (.L 1 (.s (.v 0) (.z (.v 1))) (.z (.v 0)) .n)) (by kernel_rfl) u9 Int.le_natAbs)) (Int.natCast_nonneg _)
  have d : -(val x * (c : Int) - ((n * T : Nat) : Int)) * (K : Int) ≤ ((val x * (c : Int) - ((n * T : Nat) : Int)).natAbs : Int) * (K : Int) := Int.mul_le_mul_of_nonneg_right (by exact Or.elim (Int.le_total 0 (val x * ↑c - ↑(n * T))) (fun q0 => Int.not_lt.mp (fun u9 => lin [_, _] [_] (.L 1 (.a (.z (.v 1)) (.i 1)) (.g (.s (.v 0) (.z (.v 0)))) (.E 1 (.z (.v 1)) (.s (.v 0) (.z (.v 0))) .n)) (by kernel_rfl) u9 (Int.natAbs_of_nonneg (Int.not_lt.mp (fun u9 => lin [_] [_] (.L 1 (.a (.s (.v 0) (.z (.v 0))) (.i 1)) (.i 0) (.L 1 (.i 0) (.s (.v 0) (.z (.v 0))) .n)) (by kernel_rfl) u9 q0))))) (fun q0 => Int.not_lt.mp (fun u9 => lin [_, _] [_] (.L 1 (.a (.z (.v 1)) (.i 1)) (.g (.s (.v 0) (.z (.v 0)))) (.E (-1) (.z (.v 1)) (.g (.s (.v 0) (.z (.v 0)))) .n)) (by kernel_rfl) u9 (Int.ofNat_natAbs_of_nonpos (Int.not_lt.mp (fun u9 => lin [_] [_] (.L 1 (.a (.i 0) (.i 1)) (.s (.v 0) (.z (.v 0))) (.L 1 (.s (.v 0) (.z (.v 0))) (.i 0) .n)) (by kernel_rfl) u9 q0)))))) (Int.natCast_nonneg _)
  refine ⟨hf, ?_, ?_⟩
  · rw [e1]; exact Int.not_lt.mp (fun u9 => lin [] [_, _, _] (.L 1 (.a (.v 1) (.i 1)) (.v 2) (.L 1 (.v 0) (.v 1) (.L 1 (.v 2) (.v 0) .n))) (by kernel_rfl) u9 h' u)
  · rw [Int.neg_mul, ← e1] at d; exact Int.not_lt.mp (fun u9 => lin [] [_, _, _, _] (.L 1 (.a (.v 3) (.i 1)) (.s (.v 1) (.v 0)) (.L 1 (.v 2) (.v 3) (.L 1 (.g (.s (.v 0) (.v 1))) (.v 2) .n))) (by kernel_rfl) u9 h' d)
theorem hueN_lt {x y z : Nat} (hD : mnN x y z < mxN x y z) : hueN x y z < 6 * (mxN x y z - mnN x y z) := by
  obtain ⟨a1, a2, a3, a4⟩ := mx_facts x y z
  obtain ⟨b1, b2, b3, b4⟩ := mn_facts x y z
  unfold hueN
  generalize mxN x y z = M at *
  generalize mnN x y z = m at *
  split
  · split <;> (first | (rename_i w0 _; exact Or.elim (Nat.le_total (y) (z)) (fun q0 => Nat.not_le.mp (fun u9 => lin [_, _, _, _] [] (.l 1 (.m 6 (.v 2)) (.v 3) (.l 6 (.a (.v 1) (.c 1)) (.v 0) (.e (-6) (.a (.v 2) (.v 1)) (.v 0) (.e 1 (.v 3) (.c 0) .n)))) (by kernel_rfl) u9 hD (Nat.sub_add_cancel (Nat.not_lt.mp (fun u9 => lin [_, _, _] [] (.l 1 (.a (.v 0) (.c 1)) (.v 1) (.l 1 (.v 1) (.v 2) (.e 1 (.v 2) (.v 0) .n))) (by kernel_rfl) u9 b1 w0))) (Nat.sub_eq_zero_of_le (Nat.not_lt.mp (fun u9 => lin [_, _] [] (.l 1 (.a (.v 1) (.c 1)) (.v 0) (.l 1 (.v 0) (.v 1) .n)) (by kernel_rfl) u9 q0))))) (fun q0 => Nat.not_le.mp (fun u9 => lin [_, _, _, _, _, _] [] (.l 1 (.m 6 (.v 4)) (.v 5) (.l 1 (.v 0) (.v 1) (.l 1 (.v 3) (.v 2) (.l 5 (.a (.v 3) (.c 1)) (.v 1) (.e (-6) (.a (.v 4) (.v 3)) (.v 1) (.e 1 (.a (.v 5) (.v 2)) (.v 0) .n)))))) (by kernel_rfl) u9 a2 b3 hD (Nat.sub_add_cancel (Nat.not_lt.mp (fun u9 => lin [_, _, _] [] (.l 1 (.a (.v 0) (.c 1)) (.v 1) (.l 1 (.v 1) (.v 2) (.e 1 (.v 2) (.v 0) .n))) (by kernel_rfl) u9 b1 w0))) (Nat.sub_add_cancel (Nat.not_lt.mp (fun u9 => lin [_, _] [] (.l 1 (.a (.v 0) (.c 1)) (.v 1) (.l 1 (.v 1) (.v 0) .n)) (by kernel_rfl) u9 q0)))))) | (rename_i w0 w1; exact Nat.not_le.mp (fun u9 => lin [_, _, _, _, _] [] (.l 1 (.m 6 (.v 2)) (.v 3) (.l 1 (.a (.v 0) (.c 1)) (.v 1) (.e 1 (.a (.v 3) (.v 4)) (.m 6 (.v 2)) (.e (-1) (.a (.v 4) (.v 0)) (.v 1) .n)))) (by kernel_rfl) u9 w1 (Nat.sub_add_cancel (Nat.not_lt.mp (fun u9 => lin [_, _, _, _, _, _] [] (.l 1 (.a (.m 6 (.v 4)) (.c 1)) (.v 5) (.l 6 (.v 2) (.v 1) (.l 6 (.v 3) (.v 0) (.l 5 (.a (.v 0) (.c 1)) (.v 2) (.e (-6) (.a (.v 4) (.v 3)) (.v 1) (.e 1 (.a (.v 5) (.v 0)) (.v 2) .n)))))) (by kernel_rfl) u9 a3 b2 w1 (Nat.sub_add_cancel (Nat.not_lt.mp (fun u9 => lin [_, _, _] [] (.l 1 (.a (.v 0) (.c 1)) (.v 1) (.l 1 (.v 1) (.v 2) (.e 1 (.v 2) (.v 0) .n))) (by kernel_rfl) u9 b1 w0))) (Nat.sub_add_cancel (Nat.not_lt.mp (fun u9 => lin [_, _] [] (.l 1 (.a (.v 1) (.c 1)) (.v 0) (.l 1 (.a (.v 0) (.c 1)) (.v 1) .n)) (by kernel_rfl) u9 w1)))))) (Nat.sub_add_cancel (Nat.not_lt.mp (fun u9 => lin [_, _] [] (.l 1 (.a (.v 1) (.c 1)) (.v 0) (.l 1 (.a (.v 0) (.c 1)) (.v 1) .n)) (by kernel_rfl) u9 w1))))))
  · split <;> (first | (rename_i w0 w1; exact Or.elim (Nat.lt_or_gt_of_ne w0) (fun q0 => Or.elim (Nat.le_total (2 * (M - m) + z) (x)) (fun q2 => Nat.not_le.mp (fun u9 => lin [_, _, _, _] [] (.l 1 (.m 6 (.v 2)) (.v 3) (.l 6 (.a (.v 1) (.c 1)) (.v 0) (.e (-6) (.a (.v 2) (.v 1)) (.v 0) (.e 1 (.v 3) (.c 0) .n)))) (by kernel_rfl) u9 hD (Nat.sub_add_cancel (Nat.not_lt.mp (fun u9 => lin [_, _] [] (.l 1 (.a (.v 0) (.c 1)) (.v 1) (.l 1 (.a (.v 1) (.c 1)) (.v 0) .n)) (by kernel_rfl) u9 hD))) (Nat.sub_eq_zero_of_le (Nat.not_lt.mp (fun u9 => lin [_, _, _] [] (.l 1 (.a (.v 0) (.c 1)) (.a (.m 2 (.v 2)) (.v 1)) (.l 1 (.a (.m 2 (.v 2)) (.v 1)) (.v 0) .n)) (by kernel_rfl) u9 q2))))) (fun q2 => Nat.not_le.mp (fun u9 => lin [_, _, _, _, _, _] [] (.l 1 (.m 6 (.v 4)) (.v 5) (.l 1 (.v 2) (.v 1) (.l 1 (.v 3) (.v 0) (.l 3 (.a (.v 3) (.c 1)) (.v 1) (.e (-4) (.a (.v 4) (.v 3)) (.v 1) (.e 1 (.a (.v 5) (.v 0)) (.a (.m 2 (.v 4)) (.v 2)) .n)))))) (by kernel_rfl) u9 a3 b1 hD (Nat.sub_add_cancel (Nat.not_lt.mp (fun u9 => lin [_, _] [] (.l 1 (.a (.v 0) (.c 1)) (.v 1) (.l 1 (.a (.v 1) (.c 1)) (.v 0) .n)) (by kernel_rfl) u9 hD))) (Nat.sub_add_cancel (Nat.not_lt.mp (fun u9 => lin [_, _, _] [] (.l 1 (.a (.a (.m 2 (.v 2)) (.v 1)) (.c 1)) (.v 0) (.l 1 (.v 0) (.a (.m 2 (.v 2)) (.v 1)) .n)) (by kernel_rfl) u9 q2)))))) (fun q0 => Nat.not_le.mp (fun u9 => lin [_, _, _, _] [] (.l 0 (.m 6 (.v 2)) (.v 3) (.l 1 (.v 0) (.v 1) (.l 1 (.a (.v 1) (.c 1)) (.v 0) .n))) (by kernel_rfl) u9 a1 q0))) | (rename_i w0 w1; exact Or.elim a4 (fun q0 => Or.elim (Nat.lt_or_gt_of_ne w0) (fun q1 => Nat.not_le.mp (fun u9 => lin [_, _, _, _] [] (.l 0 (.m 6 (.v 2)) (.v 3) (.e (-1) (.v 0) (.v 1) (.l 1 (.a (.v 0) (.c 1)) (.v 1) .n))) (by kernel_rfl) u9 q0 q1)) (fun q1 => Nat.not_le.mp (fun u9 => lin [_, _, _, _] [] (.l 0 (.m 6 (.v 2)) (.v 3) (.e 1 (.v 0) (.v 1) (.l 1 (.a (.v 1) (.c 1)) (.v 0) .n))) (by kernel_rfl) u9 q0 q1))) (fun q0 => Or.elim (Nat.le_total (4 * (M - m) + x) (y)) (fun q5 => Nat.not_le.mp (fun u9 => lin [_, _, _, _] [] (.l 1 (.m 6 (.v 2)) (.v 3) (.l 6 (.a (.v 1) (.c 1)) (.v 0) (.e (-6) (.a (.v 2) (.v 1)) (.v 0) (.e 1 (.v 3) (.c 0) .n)))) (by kernel_rfl) u9 hD (Nat.sub_add_cancel (Nat.not_lt.mp (fun u9 => lin [_, _] [] (.l 1 (.a (.v 0) (.c 1)) (.v 1) (.l 1 (.a (.v 1) (.c 1)) (.v 0) .n)) (by kernel_rfl) u9 hD))) (Nat.sub_eq_zero_of_le (Nat.not_lt.mp (fun u9 => lin [_, _, _] [] (.l 1 (.a (.v 1) (.c 1)) (.a (.m 4 (.v 2)) (.v 0)) (.l 1 (.a (.m 4 (.v 2)) (.v 0)) (.v 1) .n)) (by kernel_rfl) u9 q5))))) (fun q5 => Nat.not_le.mp (fun u9 => lin [_, _, _, _, _, _] [] (.l 1 (.m 6 (.v 4)) (.v 5) (.l 1 (.v 0) (.v 1) (.l 1 (.v 2) (.v 3) (.l 1 (.a (.v 2) (.c 1)) (.v 1) (.e (-2) (.a (.v 4) (.v 2)) (.v 1) (.e 1 (.a (.v 5) (.v 3)) (.a (.m 4 (.v 4)) (.v 0)) .n)))))) (by kernel_rfl) u9 a1 b2 hD (Nat.sub_add_cancel (Nat.not_lt.mp (fun u9 => lin [_, _] [] (.l 1 (.a (.v 0) (.c 1)) (.v 1) (.l 1 (.a (.v 1) (.c 1)) (.v 0) .n)) (by kernel_rfl) u9 hD))) (Nat.sub_add_cancel (Nat.not_lt.mp (fun u9 => lin [_, _, _] [] (.l 1 (.a (.a (.m 4 (.v 2)) (.v 0)) (.c 1)) (.v 1) (.l 1 (.v 1) (.a (.m 4 (.v 2)) (.v 0)) .n)) (by kernel_rfl) u9 q5))))))))
theorem hue_ap {x y z : Nat} (hx : x ≤ 16) (hy : y ≤ 16) (hz : z ≤ 16) (hD : mnN x y z < mxN x y z) :
    Ap (6 * ((mxN x y z - mnN x y z : Nat) : Int) * 1152921504606846976) (hueF (d16 (x : Int)) (d16 (y : Int)) (d16 (z : Int))) ((hueN x y z : Int) * 1152921504606846976) 16384 := by
  obtain ⟨s, p, h1, h2, h3, h4⟩ := hue_d16 hx hy hz hD
  have hM : mxN x y z ≤ 16 := by rcases (mx_facts x y z).2.2.2 with h | h | h <;> rw [← h] <;> assumption
  have h := all_range (all_range (row_of h1) (i := mxN x y z - mnN x y z - 1) (by exact Nat.not_le.mp (fun u9 => lin [_, _, _, _] [] (.l 1 (.c 16) (.v 2) (.l 1 (.v 1) (.c 16) (.e 1 (.a (.v 2) (.c 1)) (.v 3) (.e 1 (.a (.v 3) (.v 0)) (.v 1) .n)))) (by kernel_rfl) u9 hM (Nat.sub_add_cancel (Nat.not_lt.mp (fun u9 => lin [_, _, _] [] (.l 1 (.a (.v 2) (.c 1)) (.c 1) (.l 1 (.a (.v 0) (.c 1)) (.v 1) (.e (-1) (.a (.v 2) (.v 0)) (.v 1) .n))) (by kernel_rfl) u9 hD (Nat.sub_add_cancel (Nat.not_lt.mp (fun u9 => lin [_, _] [] (.l 1 (.a (.v 1) (.c 1)) (.v 0) (.l 1 (.a (.v 0) (.c 1)) (.v 1) .n)) (by kernel_rfl) u9 hD)))))) (Nat.sub_add_cancel (Nat.not_lt.mp (fun u9 => lin [_, _] [] (.l 1 (.a (.v 1) (.c 1)) (.v 0) (.l 1 (.a (.v 0) (.c 1)) (.v 1) .n)) (by kernel_rfl) u9 hD)))))) (i := p) (by exact Nat.not_le.mp (fun u9 => lin [_, _, _] [] (.l 1 (.a (.v 2) (.c 2)) (.v 0) (.l 1 (.v 0) (.v 1) (.e (-1) (.a (.v 2) (.c 1)) (.v 1) .n))) (by kernel_rfl) u9 h2 (Nat.sub_add_cancel (Nat.not_lt.mp (fun u9 => lin [_, _, _] [] (.l 1 (.a (.v 2) (.c 1)) (.c 1) (.l 1 (.a (.v 0) (.c 1)) (.v 1) (.e (-1) (.a (.v 2) (.v 0)) (.v 1) .n))) (by kernel_rfl) u9 hD (Nat.sub_add_cancel (Nat.not_lt.mp (fun u9 => lin [_, _] [] (.l 1 (.a (.v 1) (.c 1)) (.v 0) (.l 1 (.a (.v 0) (.c 1)) (.v 1) .n)) (by kernel_rfl) u9 hD))))))))
  rw [show mxN x y z - mnN x y z - 1 + 1 = mxN x y z - mnN x y z by exact linn [_, _] [] (.a (.v 0) (.c 1)) (.v 1) (.e (-1) (.a (.v 0) (.c 1)) (.v 1) .n) (by kernel_rfl) (Nat.sub_add_cancel (Nat.not_lt.mp (fun u9 => lin [_, _, _] [] (.l 1 (.a (.v 2) (.c 1)) (.c 1) (.l 1 (.a (.v 0) (.c 1)) (.v 1) (.e (-1) (.a (.v 2) (.v 0)) (.v 1) .n))) (by kernel_rfl) u9 hD (Nat.sub_add_cancel (Nat.not_lt.mp (fun u9 => lin [_, _] [] (.l 1 (.a (.v 1) (.c 1)) (.v 0) (.l 1 (.a (.v 0) (.c 1)) (.v 1) .n)) (by kernel_rfl) u9 hD))))))] at h
  unfold okH at h
  rw [Bool.and_eq_true] at h
  obtain ⟨ha, hb⟩ := h
  rw [h3, ← h4]
  have := ap_from (K := 1152921504606846976) rfl (fn_of ha) (Nat.le_of_ble_eq_true hb)
  exact ap_to this (by rw [Int.natCast_mul]; rfl) rfl (Int.le_refl _)
end
section
open PySem.Float64
theorem tn_min (e f : Int) (he : -1074 ≤ e) (hf : -1074 ≤ f) : (e - min e f).toNat + (min e f + 1074).toNat = (e + 1074).toNat ∧ (f - min e f).toNat + (min e f + 1074).toNat = (f + 1074).toNat ∧ -1074 ≤ min e f := by
  rcases Int.le_total e f with h | h
  · rw [Int.min_eq_left h]; exact ⟨linn [_, _] [_] (.a (.v 0) (.v 1)) (.v 1) (.E (-1) (.z (.v 0)) (.s (.v 0) (.v 0)) .n) (by kernel_rfl) (Int.toNat_of_nonneg (Int.not_lt.mp (fun u9 => lin [] [_] (.L 1 (.a (.s (.v 0) (.v 0)) (.i 1)) (.i 0) .n) (by kernel_rfl) u9))), ⟨linn [_, _, _] [_, _] (.a (.v 0) (.v 1)) (.v 2) (.E (-1) (.z (.v 0)) (.s (.v 1) (.v 0)) (.E (-1) (.z (.v 1)) (.a (.v 0) (.i 1074)) (.E 1 (.z (.v 2)) (.a (.v 1) (.i 1074)) .n))) (by kernel_rfl) (Int.toNat_of_nonneg (Int.not_lt.mp (fun u9 => lin [] [_, _] (.L 1 (.a (.s (.v 1) (.v 0)) (.i 1)) (.i 0) (.L 1 (.v 0) (.v 1) .n)) (by kernel_rfl) u9 h))) (Int.toNat_of_nonneg (Int.not_lt.mp (fun u9 => lin [] [_] (.L 1 (.a (.a (.v 0) (.i 1074)) (.i 1)) (.i 0) (.L 1 (.i (-1074)) (.v 0) .n)) (by kernel_rfl) u9 he))) (Int.toNat_of_nonneg (Int.not_lt.mp (fun u9 => lin [] [_] (.L 1 (.a (.a (.v 0) (.i 1074)) (.i 1)) (.i 0) (.L 1 (.i (-1074)) (.v 0) .n)) (by kernel_rfl) u9 hf))), Int.not_lt.mp (fun u9 => lin [] [_] (.L 1 (.a (.v 0) (.i 1)) (.i (-1074)) (.L 1 (.i (-1074)) (.v 0) .n)) (by kernel_rfl) u9 he)⟩⟩
  · rw [Int.min_eq_right h]; exact ⟨linn [_, _, _] [_, _] (.a (.v 0) (.v 1)) (.v 2) (.E (-1) (.z (.v 0)) (.s (.v 0) (.v 1)) (.E (-1) (.z (.v 1)) (.a (.v 1) (.i 1074)) (.E 1 (.z (.v 2)) (.a (.v 0) (.i 1074)) .n))) (by kernel_rfl) (Int.toNat_of_nonneg (Int.not_lt.mp (fun u9 => lin [] [_, _] (.L 1 (.a (.s (.v 0) (.v 1)) (.i 1)) (.i 0) (.L 1 (.v 1) (.v 0) .n)) (by kernel_rfl) u9 h))) (Int.toNat_of_nonneg (Int.not_lt.mp (fun u9 => lin [] [_] (.L 1 (.a (.a (.v 0) (.i 1074)) (.i 1)) (.i 0) (.L 1 (.i (-1074)) (.v 0) .n)) (by kernel_rfl) u9 hf))) (Int.toNat_of_nonneg (Int.not_lt.mp (fun u9 => lin [] [_] (.L 1 (.a (.a (.v 0) (.i 1074)) (.i 1)) (.i 0) (.L 1 (.i (-1074)) (.v 0) .n)) (by kernel_rfl) u9 he))), ⟨linn [_, _] [_] (.a (.v 0) (.v 1)) (.v 1) (.E (-1) (.z (.v 0)) (.s (.v 0) (.v 0)) .n) (by kernel_rfl) (Int.toNat_of_nonneg (Int.not_lt.mp (fun u9 => lin [] [_] (.L 1 (.a (.s (.v 0) (.v 0)) (.i 1)) (.i 0) .n) (by kernel_rfl) u9))), Int.not_lt.mp (fun u9 => lin [] [_] (.L 1 (.a (.v 0) (.i 1)) (.i (-1074)) (.L 1 (.i (-1074)) (.v 0) .n)) (by kernel_rfl) u9 hf)⟩⟩
theorem fmod_right {x : UInt64} {a : Bool} {m : Nat} {e : Int} (hx : decode x = .fin a m e) : Right (fmod x 4607182418800017408) a ((val x).natAbs % 2 ^ 1074) 1 := by
  obtain ⟨b, k, f, hy⟩ := fn_one
  have he := decode_ge hx
  have hf := decode_ge hy
  have hv := val_natAbs hy
  rw [val_one] at hv
  have hv : 2 ^ 1074 = k * 2 ^ (f + 1074).toNat := by rw [← hv]; rfl
  have hk : k ≠ 0 := by
    intro h
    rw [h, Nat.zero_mul] at hv
    exact absurd hv (Nat.ne_of_gt (Nat.two_pow_pos _))
  have hfm : fmod x 4607182418800017408 = ofBin a (m * 2 ^ (e - min e f).toNat % (k * 2 ^ (f - min e f).toNat)) (min e f) := by
    unfold fmod
    rw [hx, hy]
    simp only
    rw [if_neg (by simpa using hk)]
    rfl
  rw [hfm, val_natAbs hx, hv]
  unfold ofBin
  refine ofFrac_right (shift_pos _ _ _ (by decide)) ?_ (by decide)
  have := shift_one (m * 2 ^ (e - min e f).toNat % (k * 2 ^ (f - min e f).toNat)) (min e f) 1074 (by lia)
  rw [Nat.mul_one]
  have e1 : (e - min e f).toNat + (min e f + 1074).toNat = (e + 1074).toNat := (tn_min e f he hf).1
  have e2 : (f - min e f).toNat + (min e f + 1074).toNat = (f + 1074).toNat := (tn_min e f he hf).2.1
  have e3 : m * 2 ^ (e + 1074).toNat % (k * 2 ^ (f + 1074).toNat) = m * 2 ^ (e - min e f).toNat % (k * 2 ^ (f - min e f).toNat) * 2 ^ (min e f + ((1074 : Nat) : Int)).toNat := by
    rw [← e1, ← e2, Nat.pow_add, Nat.pow_add, ← Nat.mul_assoc, ← Nat.mul_assoc, Nat.mul_mod_mul_right]
    rfl
  rw [e3]
  exact this
theorem isZero_val {x : UInt64} (h : isZero x = true) : val x = 0 := by
  unfold isZero at h
  unfold val
  split at h
  · rename_i hd; rw [hd]; simp [sgn]
  · cases h
theorem vM_def (z : UInt64) : vM z = if isZero (fmod z 4607182418800017408) = true then 0 else if lt (fmod z 4607182418800017408) 0 = true then add (fmod z 4607182418800017408) 4607182418800017408 else fmod z 4607182418800017408 := by
  have e1 : copysign (zero false) 4607182418800017408 = 0 := by decide +kernel
  have e2 : lt 4607182418800017408 (zero false) = false := by decide +kernel
  have e3 : zero false = 0 := by decide +kernel
  unfold vM divmod
  dsimp only
  rw [e1, e2, e3]
  by_cases h : isZero (fmod z 4607182418800017408) = true
  · rw [if_pos h, if_pos h]
  · rw [if_neg h, if_neg h]
    cases lt (fmod z 4607182418800017408) 0
    · rfl
    · rfl
theorem vM_near {z : UInt64} (hz : Fn z) : Fn (vM z) ∧ ∃ j : Int, val (vM z) - (val z - j * PP) ≤ 2 * EE ∧ (val z - j * PP) - val (vM z) ≤ 2 * EE ∧ -(2 * EE) ≤ val (vM z) ∧ val (vM z) ≤ PP + 2 * EE := by
  obtain ⟨a, m, e, hd⟩ := hz
  have hr := fmod_right hd
  have hlt : (val z).natAbs % 2 ^ 1074 < 2 ^ 1074 := Nat.mod_lt _ (Nat.two_pow_pos _)
  obtain ⟨⟨m', e', hd'⟩, hn, hv⟩ := near hr (by decide) (Nat.lt_trans hlt (by rw [Nat.one_mul]; exact Nat.pow_lt_pow_right (by decide) (by decide)))
  rw [Nat.one_mul, Nat.one_mul] at hn
  have hn' := dist_le hn
  have hE : ((2 ^ 1024 : Nat) : Int) = EE := rfl
  have hPP : ((2 ^ 1074 : Nat) : Int) = PP := rfl
  rw [hE] at hn'
  have hdm := Nat.div_add_mod (val z).natAbs (2 ^ 1074)
  have hdm' : PP * (((val z).natAbs / 2 ^ 1074 : Nat) : Int) + (((val z).natAbs % 2 ^ 1074 : Nat) : Int) = ((val z).natAbs : Int) := by rw [← hPP]; exact_mod_cast hdm
  have hlt' : (((val z).natAbs % 2 ^ 1074 : Nat) : Int) < PP := by rw [← hPP]; exact Int.ofNat_lt.mpr hlt
  have hw0 : (0 : Int) ≤ (((val z).natAbs % 2 ^ 1074 : Nat) : Int) := Int.natCast_nonneg _
  have hzs : val z = sgn a ((val z).natAbs) := by rw [val_natAbs hd, ← val_eq hd]
  generalize (((val z).natAbs / 2 ^ 1074 : Nat) : Int) = q at hdm'
  generalize (((val z).natAbs % 2 ^ 1074 : Nat) : Int) = W at *
  have hP := PP_pos
  have hEE : 0 < EE := Int.ofNat_lt.mpr (Nat.two_pow_pos _)
  have hEP : EE * 1125899906842624 = PP := PP_eq
  have hfn : Fn (fmod z 4607182418800017408) := ⟨_, m', e', hd'⟩
  have hl : lt (fmod z 4607182418800017408) 0 = decide (val (fmod z 4607182418800017408) < 0) := by
    unfold lt; rw [cmp_lt hfn fn_zero, val_zero]
  rw [vM_def, hl]
  generalize hR : val (fmod z 4607182418800017408) = R at hn' hv ⊢
  cases a with
  | false =>
    have hv : R = (R.natAbs : Int) := hv
    have hz' : val z = ((val z).natAbs : Int) := hzs
    have hj : val z - q * PP = W := by rw [Int.mul_comm]; exact linz [_] [_, _, _] (.s (.v 2) (.v 0)) (.v 1) (.E 1 (.a (.v 0) (.v 1)) (.z (.v 0)) (.E (-1) (.v 2) (.z (.v 0)) .n)) (by kernel_rfl) hdm' hz'
    by_cases h0 : isZero (fmod z 4607182418800017408) = true
    · rw [if_pos h0]
      have := isZero_val h0
      rw [hR] at this
      exact ⟨fn_zero, q, by rw [val_zero, hj]; exact Int.not_lt.mp (fun u9 => lin [] [_, _, _] (.L 562949953421312 (.a (.m 2 (.v 2)) (.i 1)) (.s (.i 0) (.v 0)) (.L 562949953421312 (.i 0) (.v 0) (.L 1 (.a (.i 0) (.i 1)) (.v 1) (.E (-1) (.r (.v 2) 1125899906842624) (.v 1) .n)))) (by kernel_rfl) u9 hw0 hP hEP), by rw [val_zero, hj]; exact Int.not_lt.mp (fun u9 => lin [_] [_, _, _] (.L 1 (.a (.m 2 (.v 2)) (.i 1)) (.s (.v 0) (.i 0)) (.L 2 (.s (.v 0) (.z (.v 0))) (.v 2) (.E 2 (.v 1) (.i 0) (.L 1 (.i 0) (.v 0) (.E 2 (.z (.v 0)) (.v 1) .n))))) (by kernel_rfl) u9 hn'.1 this hw0 (Int.natAbs_of_nonneg (Int.not_lt.mp (fun u9 => lin [] [_] (.L 1 (.a (.v 0) (.i 1)) (.i 0) (.E (-1) (.v 0) (.i 0) .n)) (by kernel_rfl) u9 this)))), by rw [val_zero]; exact Int.not_lt.mp (fun u9 => lin [] [_, _] (.L 562949953421312 (.a (.i 0) (.i 1)) (.g (.m 2 (.v 1))) (.L 1 (.a (.i 0) (.i 1)) (.v 0) (.E (-1) (.r (.v 1) 1125899906842624) (.v 0) .n))) (by kernel_rfl) u9 hP hEP), by rw [val_zero]; exact Int.not_lt.mp (fun u9 => lin [] [_, _] (.L 562949953421312 (.a (.a (.v 0) (.m 2 (.v 1))) (.i 1)) (.i 0) (.L 562949953421313 (.a (.i 0) (.i 1)) (.v 0) (.E (-1) (.r (.v 1) 1125899906842624) (.v 0) .n))) (by kernel_rfl) u9 hP hEP)⟩
    · rw [if_neg h0, decide_eq_false (by exact fun u9 => lin [_] [_] (.L 1 (.a (.v 0) (.i 1)) (.i 0) (.E 1 (.z (.v 0)) (.v 0) .n)) (by kernel_rfl) u9 (Int.natAbs_of_nonneg (Int.not_lt.mp (fun u9 => lin [_] [_] (.L 1 (.a (.v 0) (.i 1)) (.i 0) (.E 1 (.z (.v 0)) (.v 0) .n)) (by kernel_rfl) u9 (Int.natAbs_of_nonneg (Int.not_lt.mp (fun u9 => lin [_] [_] (.L 1 (.a (.v 0) (.i 1)) (.i 0) (.E (-1) (.v 0) (.z (.v 0)) .n)) (by kernel_rfl) u9 hv))))))), if_neg Bool.false_ne_true]
      exact ⟨hfn, q, by rw [hR, hj]; exact Int.not_lt.mp (fun u9 => lin [_] [_, _, _, _] (.L 1125899906842624 (.a (.m 2 (.v 2)) (.i 1)) (.s (.v 1) (.v 0)) (.L 1125899906842624 (.s (.z (.v 0)) (.v 0)) (.v 2) (.L 1 (.a (.i 0) (.i 1)) (.v 3) (.E (-1) (.r (.v 2) 1125899906842624) (.v 3) (.E (-1125899906842624) (.z (.v 0)) (.v 1) .n))))) (by kernel_rfl) u9 hn'.2 hP hEP (Int.natAbs_of_nonneg (Int.not_lt.mp (fun u9 => lin [_] [_] (.L 1 (.a (.v 0) (.i 1)) (.i 0) (.E 1 (.z (.v 0)) (.v 0) .n)) (by kernel_rfl) u9 (Int.natAbs_of_nonneg (Int.not_lt.mp (fun u9 => lin [_] [_] (.L 1 (.a (.v 0) (.i 1)) (.i 0) (.E (-1) (.v 0) (.z (.v 0)) .n)) (by kernel_rfl) u9 hv))))))), by rw [hR, hj]; exact Int.not_lt.mp (fun u9 => lin [_] [_, _, _, _] (.L 1125899906842624 (.a (.m 2 (.v 2)) (.i 1)) (.s (.v 0) (.v 1)) (.L 1125899906842624 (.s (.v 0) (.z (.v 0))) (.v 2) (.L 1 (.a (.i 0) (.i 1)) (.v 3) (.E (-1) (.r (.v 2) 1125899906842624) (.v 3) (.E 1125899906842624 (.z (.v 0)) (.v 1) .n))))) (by kernel_rfl) u9 hn'.1 hP hEP (Int.natAbs_of_nonneg (Int.not_lt.mp (fun u9 => lin [_] [_] (.L 1 (.a (.v 0) (.i 1)) (.i 0) (.E 1 (.z (.v 0)) (.v 0) .n)) (by kernel_rfl) u9 (Int.natAbs_of_nonneg (Int.not_lt.mp (fun u9 => lin [_] [_] (.L 1 (.a (.v 0) (.i 1)) (.i 0) (.E (-1) (.v 0) (.z (.v 0)) .n)) (by kernel_rfl) u9 hv))))))), by rw [hR]; exact Int.not_lt.mp (fun u9 => lin [_] [_, _, _] (.L 562949953421312 (.a (.v 0) (.i 1)) (.g (.m 2 (.v 2))) (.L 1 (.a (.i 0) (.i 1)) (.v 1) (.E (-1) (.r (.v 2) 1125899906842624) (.v 1) (.E 562949953421312 (.z (.v 0)) (.v 0) .n)))) (by kernel_rfl) u9 hP hEP (Int.natAbs_of_nonneg (Int.not_lt.mp (fun u9 => lin [_] [_] (.L 1 (.a (.v 0) (.i 1)) (.i 0) (.E 1 (.z (.v 0)) (.v 0) .n)) (by kernel_rfl) u9 (Int.natAbs_of_nonneg (Int.not_lt.mp (fun u9 => lin [_] [_] (.L 1 (.a (.v 0) (.i 1)) (.i 0) (.E (-1) (.v 0) (.z (.v 0)) .n)) (by kernel_rfl) u9 hv))))))), by rw [hR]; exact Int.not_lt.mp (fun u9 => lin [_] [_, _, _, _] (.L 1125899906842624 (.a (.a (.v 1) (.m 2 (.v 3))) (.i 1)) (.v 2) (.L 1125899906842624 (.a (.v 0) (.i 1)) (.v 1) (.L 1125899906842624 (.s (.z (.v 0)) (.v 0)) (.v 3) (.L 1 (.a (.i 0) (.i 1)) (.v 1) (.E (-1) (.r (.v 3) 1125899906842624) (.v 1) (.E (-1125899906842624) (.z (.v 0)) (.v 2) .n)))))) (by kernel_rfl) u9 hlt' hn'.2 hP hEP (Int.natAbs_of_nonneg (Int.not_lt.mp (fun u9 => lin [_] [_] (.L 1 (.a (.v 0) (.i 1)) (.i 0) (.E 1 (.z (.v 0)) (.v 0) .n)) (by kernel_rfl) u9 (Int.natAbs_of_nonneg (Int.not_lt.mp (fun u9 => lin [_] [_] (.L 1 (.a (.v 0) (.i 1)) (.i 0) (.E (-1) (.v 0) (.z (.v 0)) .n)) (by kernel_rfl) u9 hv)))))))⟩
  | true =>
    have hv : R = -(R.natAbs : Int) := hv
    have hz' : val z = -((val z).natAbs : Int) := hzs
    have hj : val z - (-q) * PP = -W := by rw [Int.neg_mul, Int.mul_comm]; exact linz [_] [_, _, _] (.s (.v 2) (.g (.v 0))) (.g (.v 1)) (.E (-1) (.a (.v 0) (.v 1)) (.z (.v 0)) (.E (-1) (.v 2) (.g (.z (.v 0))) .n)) (by kernel_rfl) hdm' hz'
    have hj1 : val z - (-q - 1) * PP = PP - W := by rw [Int.sub_mul, Int.neg_mul, Int.mul_comm]; exact linz [_] [_, _, _, _] (.s (.v 2) (.s (.g (.v 0)) (.m 1 (.v 3)))) (.s (.v 3) (.v 1)) (.E (-1) (.a (.v 0) (.v 1)) (.z (.v 0)) (.E (-1) (.v 2) (.g (.z (.v 0))) .n)) (by kernel_rfl) hdm' hz'
    by_cases h0 : isZero (fmod z 4607182418800017408) = true
    · rw [if_pos h0]
      have := isZero_val h0
      rw [hR] at this
      exact ⟨fn_zero, -q, by rw [val_zero, hj]; exact Int.not_lt.mp (fun u9 => lin [_] [_, _, _, _] (.L 1125899906842623 (.a (.m 2 (.v 2)) (.i 1)) (.s (.i 0) (.g (.v 0))) (.L 1125899906842622 (.s (.v 0) (.z (.v 0))) (.v 2) (.E 1125899906842622 (.v 1) (.i 0) (.L 1 (.a (.v 0) (.i 1)) (.v 3) (.E (-1) (.r (.v 2) 1125899906842624) (.v 3) (.E 1125899906842622 (.z (.v 0)) (.v 1) .n)))))) (by kernel_rfl) u9 hn'.1 this hlt' hEP (Int.natAbs_of_nonneg (Int.not_lt.mp (fun u9 => lin [] [_] (.L 1 (.a (.v 0) (.i 1)) (.i 0) (.E (-1) (.v 0) (.i 0) .n)) (by kernel_rfl) u9 this)))), by rw [val_zero, hj]; exact Int.not_lt.mp (fun u9 => lin [] [_, _, _] (.L 562949953421312 (.a (.m 2 (.v 2)) (.i 1)) (.s (.g (.v 0)) (.i 0)) (.L 562949953421312 (.i 0) (.v 0) (.L 1 (.a (.i 0) (.i 1)) (.v 1) (.E (-1) (.r (.v 2) 1125899906842624) (.v 1) .n)))) (by kernel_rfl) u9 hw0 hP hEP), by rw [val_zero]; exact Int.not_lt.mp (fun u9 => lin [] [_, _] (.L 562949953421312 (.a (.i 0) (.i 1)) (.g (.m 2 (.v 1))) (.L 1 (.a (.i 0) (.i 1)) (.v 0) (.E (-1) (.r (.v 1) 1125899906842624) (.v 0) .n))) (by kernel_rfl) u9 hP hEP), by rw [val_zero]; exact Int.not_lt.mp (fun u9 => lin [] [_, _] (.L 562949953421312 (.a (.a (.v 0) (.m 2 (.v 1))) (.i 1)) (.i 0) (.L 562949953421313 (.a (.i 0) (.i 1)) (.v 0) (.E (-1) (.r (.v 1) 1125899906842624) (.v 0) .n))) (by kernel_rfl) u9 hP hEP)⟩
    · rw [if_neg h0]
      by_cases h1 : R < 0
      · rw [decide_eq_true h1, if_pos rfl]
        obtain ⟨g1, g2, g3⟩ := add_near hfn fn_one (by
          rw [hR, val_one]
          have e8 := PP_eight
          have : ((R + PP).natAbs : Int) < ((2 ^ 1077 : Nat) : Int) := by rw [e8]; exact Or.elim (Int.le_total 0 (R + PP)) (fun q0 => Int.not_le.mp (fun u9 => lin [_, _] [_, _, _, _] (.L 1125899906842625 (.r (.v 1) 8) (.z (.v 1)) (.L 7881299347898368 (.a (.v 0) (.i 1)) (.v 1) (.L 7881299347898368 (.s (.z (.v 0)) (.v 0)) (.v 3) (.L 9007199254740993 (.a (.v 2) (.i 1)) (.i 0) (.E 7 (.r (.v 3) 1125899906842624) (.v 1) (.E (-7881299347898368) (.z (.v 0)) (.g (.v 2)) (.E 1125899906842625 (.z (.v 1)) (.a (.v 2) (.v 1)) .n))))))) (by kernel_rfl) u9 hlt' hn'.2 h1 hEP (Int.ofNat_natAbs_of_nonpos (Int.not_lt.mp (fun u9 => lin [] [_] (.L 1 (.a (.i 0) (.i 1)) (.v 0) (.L 1 (.a (.v 0) (.i 1)) (.i 0) .n)) (by kernel_rfl) u9 h1))) (Int.natAbs_of_nonneg (Int.not_lt.mp (fun u9 => lin [] [_, _] (.L 1 (.a (.a (.v 1) (.v 0)) (.i 1)) (.i 0) (.L 1 (.i 0) (.a (.v 1) (.v 0)) .n)) (by kernel_rfl) u9 q0))))) (fun q0 => Int.not_le.mp (fun u9 => lin [_, _] [_, _, _, _] (.L 1125899906842624 (.r (.v 1) 8) (.z (.v 1)) (.L 1125899906842624 (.a (.v 0) (.i 1)) (.v 1) (.L 1125899906842624 (.s (.z (.v 0)) (.v 0)) (.v 3) (.L 9007199254740991 (.a (.i 0) (.i 1)) (.v 1) (.E 1 (.r (.v 3) 1125899906842624) (.v 1) (.E (-1125899906842624) (.z (.v 0)) (.g (.v 2)) (.E 1125899906842624 (.z (.v 1)) (.g (.a (.v 2) (.v 1))) .n))))))) (by kernel_rfl) u9 hlt' hn'.2 hP hEP (Int.ofNat_natAbs_of_nonpos (Int.not_lt.mp (fun u9 => lin [] [_] (.L 1 (.a (.i 0) (.i 1)) (.v 0) (.L 1 (.a (.v 0) (.i 1)) (.i 0) .n)) (by kernel_rfl) u9 h1))) (Int.ofNat_natAbs_of_nonpos (Int.not_lt.mp (fun u9 => lin [] [_, _] (.L 1 (.a (.i 0) (.i 1)) (.a (.v 1) (.v 0)) (.L 1 (.a (.v 1) (.v 0)) (.i 0) .n)) (by kernel_rfl) u9 q0)))))
          exact Int.ofNat_lt.mp this)
        rw [hR, val_one, hE] at g2 g3
        exact ⟨g1, -q - 1, by rw [hj1]; exact Int.not_lt.mp (fun u9 => lin [_] [_, _, _, _, _] (.L 1 (.a (.m 2 (.v 2)) (.i 1)) (.s (.v 3) (.s (.v 4) (.v 0))) (.L 1 (.s (.v 0) (.z (.v 0))) (.v 2) (.L 1 (.s (.v 3) (.a (.v 1) (.v 4))) (.v 2) (.E 1 (.z (.v 0)) (.g (.v 1)) .n)))) (by kernel_rfl) u9 hn'.1 g2 (Int.ofNat_natAbs_of_nonpos (Int.not_lt.mp (fun u9 => lin [] [_] (.L 1 (.a (.i 0) (.i 1)) (.v 0) (.L 1 (.a (.v 0) (.i 1)) (.i 0) .n)) (by kernel_rfl) u9 h1)))), by rw [hj1]; exact Int.not_lt.mp (fun u9 => lin [_] [_, _, _, _, _] (.L 1 (.a (.m 2 (.v 2)) (.i 1)) (.s (.s (.v 3) (.v 0)) (.v 4)) (.L 1 (.s (.z (.v 0)) (.v 0)) (.v 2) (.L 1 (.s (.a (.v 1) (.v 3)) (.v 4)) (.v 2) (.E (-1) (.z (.v 0)) (.g (.v 1)) .n)))) (by kernel_rfl) u9 hn'.2 g3 (Int.ofNat_natAbs_of_nonpos (Int.not_lt.mp (fun u9 => lin [] [_] (.L 1 (.a (.i 0) (.i 1)) (.v 0) (.L 1 (.a (.v 0) (.i 1)) (.i 0) .n)) (by kernel_rfl) u9 h1)))), by exact Int.not_lt.mp (fun u9 => lin [_] [_, _, _, _, _] (.L 1 (.a (.v 4) (.i 1)) (.g (.m 2 (.v 3))) (.L 1 (.a (.v 0) (.i 1)) (.v 1) (.L 1 (.s (.z (.v 0)) (.v 0)) (.v 3) (.L 1 (.s (.a (.v 2) (.v 1)) (.v 4)) (.v 3) (.E (-1) (.z (.v 0)) (.g (.v 2)) .n))))) (by kernel_rfl) u9 hlt' hn'.2 g3 (Int.ofNat_natAbs_of_nonpos (Int.not_lt.mp (fun u9 => lin [] [_] (.L 1 (.a (.i 0) (.i 1)) (.v 0) (.L 1 (.a (.v 0) (.i 1)) (.i 0) .n)) (by kernel_rfl) u9 h1)))), by exact Int.not_lt.mp (fun u9 => lin [_] [_, _, _, _] (.L 1125899906842624 (.a (.a (.v 2) (.m 2 (.v 3))) (.i 1)) (.v 1) (.L 1125899906842624 (.s (.v 1) (.a (.v 0) (.v 2))) (.v 3) (.L 1 (.a (.i 0) (.i 1)) (.v 2) (.E (-1) (.r (.v 3) 1125899906842624) (.v 2) (.E 1125899906842624 (.z (.v 0)) (.g (.v 0)) .n))))) (by kernel_rfl) u9 g2 hP hEP (Int.ofNat_natAbs_of_nonpos (Int.not_lt.mp (fun u9 => lin [] [_] (.L 1 (.a (.i 0) (.i 1)) (.v 0) (.L 1 (.a (.v 0) (.i 1)) (.i 0) .n)) (by kernel_rfl) u9 h1))))⟩
      · rw [decide_eq_false h1, if_neg Bool.false_ne_true]
        exact ⟨hfn, -q, by rw [hR, hj]; exact Int.not_lt.mp (fun u9 => lin [_] [_, _, _, _] (.L 2251799813685246 (.a (.m 2 (.v 2)) (.i 1)) (.s (.v 1) (.g (.v 0))) (.L 2251799813685244 (.s (.v 0) (.z (.v 0))) (.v 2) (.E 2251799813685245 (.v 1) (.g (.z (.v 0))) (.L 2 (.a (.v 0) (.i 1)) (.v 3) (.E (-2) (.r (.v 2) 1125899906842624) (.v 3) (.E (-1) (.z (.v 0)) (.v 1) .n)))))) (by kernel_rfl) u9 hn'.1 hv hlt' hEP (Int.natAbs_of_nonneg (Int.not_lt.mp (fun u9 => lin [_] [_] (.L 2 (.a (.v 0) (.i 1)) (.i 0) (.E (-1) (.v 0) (.g (.z (.v 0))) (.E 1 (.z (.v 0)) (.v 0) .n))) (by kernel_rfl) u9 hv (Int.natAbs_of_nonneg (Int.not_lt.mp (fun u9 => lin [] [_] (.L 1 (.a (.v 0) (.i 1)) (.i 0) (.L 1 (.i 0) (.v 0) .n)) (by kernel_rfl) u9 (Int.not_lt.mp h1)))))))), by rw [hR, hj]; exact Int.not_lt.mp (fun u9 => lin [_] [_, _, _, _] (.L 562949953421312 (.a (.m 2 (.v 3)) (.i 1)) (.s (.g (.v 0)) (.v 1)) (.L 562949953421312 (.i 0) (.v 0) (.E (-281474976710656) (.v 1) (.g (.z (.v 0))) (.L 1 (.a (.i 0) (.i 1)) (.v 2) (.E (-1) (.r (.v 3) 1125899906842624) (.v 2) (.E 281474976710656 (.z (.v 0)) (.v 1) .n)))))) (by kernel_rfl) u9 hw0 hv hP hEP (Int.natAbs_of_nonneg (Int.not_lt.mp (fun u9 => lin [_] [_] (.L 2 (.a (.v 0) (.i 1)) (.i 0) (.E (-1) (.v 0) (.g (.z (.v 0))) (.E 1 (.z (.v 0)) (.v 0) .n))) (by kernel_rfl) u9 hv (Int.natAbs_of_nonneg (Int.not_lt.mp (fun u9 => lin [] [_] (.L 1 (.a (.v 0) (.i 1)) (.i 0) (.L 1 (.i 0) (.v 0) .n)) (by kernel_rfl) u9 (Int.not_lt.mp h1)))))))), by rw [hR]; exact Int.not_lt.mp (fun u9 => lin [_] [_, _, _] (.L 562949953421312 (.a (.v 0) (.i 1)) (.g (.m 2 (.v 2))) (.E (-281474976710656) (.v 0) (.g (.z (.v 0))) (.L 1 (.a (.i 0) (.i 1)) (.v 1) (.E (-1) (.r (.v 2) 1125899906842624) (.v 1) (.E 281474976710656 (.z (.v 0)) (.v 0) .n))))) (by kernel_rfl) u9 hv hP hEP (Int.natAbs_of_nonneg (Int.not_lt.mp (fun u9 => lin [_] [_] (.L 2 (.a (.v 0) (.i 1)) (.i 0) (.E (-1) (.v 0) (.g (.z (.v 0))) (.E 1 (.z (.v 0)) (.v 0) .n))) (by kernel_rfl) u9 hv (Int.natAbs_of_nonneg (Int.not_lt.mp (fun u9 => lin [] [_] (.L 1 (.a (.v 0) (.i 1)) (.i 0) (.L 1 (.i 0) (.v 0) .n)) (by kernel_rfl) u9 (Int.not_lt.mp h1)))))))), by rw [hR]; exact Int.not_lt.mp (fun u9 => lin [_] [_, _, _] (.L 562949953421312 (.a (.a (.v 1) (.m 2 (.v 2))) (.i 1)) (.v 0) (.E 281474976710656 (.v 0) (.g (.z (.v 0))) (.L 562949953421313 (.a (.i 0) (.i 1)) (.v 1) (.E (-1) (.r (.v 2) 1125899906842624) (.v 1) (.E (-281474976710656) (.z (.v 0)) (.v 0) .n))))) (by kernel_rfl) u9 hv hP hEP (Int.natAbs_of_nonneg (Int.not_lt.mp (fun u9 => lin [_] [_] (.L 2 (.a (.v 0) (.i 1)) (.i 0) (.E (-1) (.v 0) (.g (.z (.v 0))) (.E 1 (.z (.v 0)) (.v 0) .n))) (by kernel_rfl) u9 hv (Int.natAbs_of_nonneg (Int.not_lt.mp (fun u9 => lin [] [_] (.L 1 (.a (.v 0) (.i 1)) (.i 0) (.L 1 (.i 0) (.v 0) .n)) (by kernel_rfl) u9 (Int.not_lt.mp h1))))))))⟩
end
section
open PySem.Float64
theorem ap_cancel {S x v e D} (hD : 0 < D) (h : Ap (S * D) x (v * D) (e * D)) : Ap S x v e := by
  have u := h.up
  have d := h.dn
  rw [show val x * (S * D) = val x * S * D by rw [Int.mul_assoc], show v * D * PP = v * PP * D by ac_rfl, show e * D * PP = e * PP * D by ac_rfl, ← Int.sub_mul] at u d
  exact ⟨h.fn, Int.le_of_mul_le_mul_right u hD, Int.le_of_mul_le_mul_right d hD⟩
theorem mul_abs {a b A B : Int} (h1 : -A ≤ a) (h2 : a ≤ A) (h3 : -B ≤ b) (h4 : b ≤ B) : -(A * B) ≤ a * b ∧ a * b ≤ A * B := by
  have hA : a.natAbs ≤ A.natAbs := by exact Or.elim (Int.le_total 0 (a)) (fun q0 => Nat.not_lt.mp (fun u9 => lin [_, _] [_, _] (.l 1 (.a (.v 0) (.c 1)) (.v 1) (.L 1 (.v 1) (.v 0) (.E (-1) (.z (.v 0)) (.v 0) (.E 1 (.z (.v 1)) (.v 1) .n)))) (by kernel_rfl) u9 h2 (Int.natAbs_of_nonneg (Int.not_lt.mp (fun u9 => lin [] [_, _] (.L 1 (.a (.v 0) (.i 1)) (.i 0) (.L 1 (.v 1) (.v 0) (.L 1 (.i 0) (.v 1) .n))) (by kernel_rfl) u9 h2 q0))) (Int.natAbs_of_nonneg (Int.not_lt.mp (fun u9 => lin [] [_] (.L 1 (.a (.v 0) (.i 1)) (.i 0) (.L 1 (.i 0) (.v 0) .n)) (by kernel_rfl) u9 q0))))) (fun q0 => Nat.not_lt.mp (fun u9 => lin [_, _] [_, _] (.l 1 (.a (.v 0) (.c 1)) (.v 1) (.L 1 (.g (.v 0)) (.v 1) (.E (-1) (.z (.v 0)) (.v 0) (.E 1 (.z (.v 1)) (.g (.v 1)) .n)))) (by kernel_rfl) u9 h1 (Int.natAbs_of_nonneg (Int.not_lt.mp (fun u9 => lin [] [_, _] (.L 1 (.a (.v 0) (.i 1)) (.i 0) (.L 1 (.g (.v 0)) (.v 1) (.L 1 (.v 1) (.i 0) .n))) (by kernel_rfl) u9 h1 q0))) (Int.ofNat_natAbs_of_nonpos (Int.not_lt.mp (fun u9 => lin [] [_] (.L 1 (.a (.i 0) (.i 1)) (.v 0) (.L 1 (.v 0) (.i 0) .n)) (by kernel_rfl) u9 q0)))))
  have hB : b.natAbs ≤ B.natAbs := by exact Or.elim (Int.le_total 0 (b)) (fun q0 => Nat.not_lt.mp (fun u9 => lin [_, _] [_, _] (.l 1 (.a (.v 0) (.c 1)) (.v 1) (.L 1 (.v 1) (.v 0) (.E (-1) (.z (.v 0)) (.v 0) (.E 1 (.z (.v 1)) (.v 1) .n)))) (by kernel_rfl) u9 h4 (Int.natAbs_of_nonneg (Int.not_lt.mp (fun u9 => lin [] [_, _] (.L 1 (.a (.v 0) (.i 1)) (.i 0) (.L 1 (.v 1) (.v 0) (.L 1 (.i 0) (.v 1) .n))) (by kernel_rfl) u9 h4 q0))) (Int.natAbs_of_nonneg (Int.not_lt.mp (fun u9 => lin [] [_] (.L 1 (.a (.v 0) (.i 1)) (.i 0) (.L 1 (.i 0) (.v 0) .n)) (by kernel_rfl) u9 q0))))) (fun q0 => Nat.not_lt.mp (fun u9 => lin [_, _] [_, _] (.l 1 (.a (.v 0) (.c 1)) (.v 1) (.L 1 (.g (.v 0)) (.v 1) (.E (-1) (.z (.v 0)) (.v 0) (.E 1 (.z (.v 1)) (.g (.v 1)) .n)))) (by kernel_rfl) u9 h3 (Int.natAbs_of_nonneg (Int.not_lt.mp (fun u9 => lin [] [_, _] (.L 1 (.a (.v 0) (.i 1)) (.i 0) (.L 1 (.g (.v 0)) (.v 1) (.L 1 (.v 1) (.i 0) .n))) (by kernel_rfl) u9 h3 q0))) (Int.ofNat_natAbs_of_nonpos (Int.not_lt.mp (fun u9 => lin [] [_] (.L 1 (.a (.i 0) (.i 1)) (.v 0) (.L 1 (.v 0) (.i 0) .n)) (by kernel_rfl) u9 q0)))))
  have h := Nat.mul_le_mul hA hB
  have e1 : (a * b).natAbs = a.natAbs * b.natAbs := Int.natAbs_mul _ _
  have e2 : (A * B).natAbs = A.natAbs * B.natAbs := Int.natAbs_mul _ _
  have hp : 0 ≤ A * B := Int.mul_nonneg (by exact Int.not_lt.mp (fun u9 => lin [] [_, _] (.L 2 (.a (.v 0) (.i 1)) (.i 0) (.L 1 (.g (.v 0)) (.v 1) (.L 1 (.v 1) (.v 0) .n))) (by kernel_rfl) u9 h1 h2)) (by exact Int.not_lt.mp (fun u9 => lin [] [_, _] (.L 2 (.a (.v 0) (.i 1)) (.i 0) (.L 1 (.g (.v 0)) (.v 1) (.L 1 (.v 1) (.v 0) .n))) (by kernel_rfl) u9 h3 h4))
  exact ⟨Or.elim (Int.le_total 0 (a * b)) (fun q0 => Int.not_lt.mp (fun u9 => lin [_, _, _, _] [_, _] (.L 1 (.a (.v 1) (.i 1)) (.g (.v 0)) (.l 1 (.v 0) (.v 1) (.e 1 (.v 2) (.v 0) (.e (-1) (.v 3) (.v 1) (.E 1 (.z (.v 2)) (.v 1) (.E 1 (.z (.v 3)) (.v 0) .n)))))) (by kernel_rfl) u9 h e1 e2 (Int.natAbs_of_nonneg (Int.not_lt.mp (fun u9 => lin [_] [_] (.L 1 (.a (.v 0) (.i 1)) (.i 0) (.E 1 (.z (.v 0)) (.v 0) .n)) (by kernel_rfl) u9 (Int.natAbs_of_nonneg (Int.not_lt.mp (fun u9 => lin [] [_] (.L 1 (.a (.v 0) (.i 1)) (.i 0) (.L 1 (.i 0) (.v 0) .n)) (by kernel_rfl) u9 q0)))))) (Int.natAbs_of_nonneg (Int.not_lt.mp (fun u9 => lin [_] [_] (.L 1 (.a (.v 0) (.i 1)) (.i 0) (.E 1 (.z (.v 0)) (.v 0) .n)) (by kernel_rfl) u9 (Int.natAbs_of_nonneg (Int.not_lt.mp (fun u9 => lin [] [_] (.L 1 (.a (.v 0) (.i 1)) (.i 0) (.L 1 (.i 0) (.v 0) .n)) (by kernel_rfl) u9 hp)))))))) (fun q0 => Int.not_lt.mp (fun u9 => lin [_, _, _, _] [_, _] (.L 1 (.a (.v 1) (.i 1)) (.g (.v 0)) (.l 1 (.v 0) (.v 1) (.e 1 (.v 2) (.v 0) (.e (-1) (.v 3) (.v 1) (.E (-1) (.z (.v 2)) (.g (.v 1)) (.E 1 (.z (.v 3)) (.v 0) .n)))))) (by kernel_rfl) u9 h e1 e2 (Int.ofNat_natAbs_of_nonpos (Int.not_lt.mp (fun u9 => lin [_] [_] (.L 1 (.a (.i 0) (.i 1)) (.v 0) (.E 1 (.z (.v 0)) (.g (.v 0)) .n)) (by kernel_rfl) u9 (Int.ofNat_natAbs_of_nonpos (Int.not_lt.mp (fun u9 => lin [] [_] (.L 1 (.a (.i 0) (.i 1)) (.v 0) (.L 1 (.v 0) (.i 0) .n)) (by kernel_rfl) u9 q0)))))) (Int.natAbs_of_nonneg (Int.not_lt.mp (fun u9 => lin [_] [_] (.L 1 (.a (.v 0) (.i 1)) (.i 0) (.E 1 (.z (.v 0)) (.v 0) .n)) (by kernel_rfl) u9 (Int.natAbs_of_nonneg (Int.not_lt.mp (fun u9 => lin [] [_] (.L 1 (.a (.v 0) (.i 1)) (.i 0) (.L 1 (.i 0) (.v 0) .n)) (by kernel_rfl) u9 hp)))))))), Int.not_lt.mp (fun u9 => lin [_, _, _, _] [_, _] (.L 1 (.a (.v 0) (.i 1)) (.v 1) (.l 1 (.v 0) (.v 1) (.e 1 (.v 2) (.v 0) (.e (-1) (.v 3) (.v 1) (.L 1 (.v 1) (.z (.v 2)) (.E 1 (.z (.v 3)) (.v 0) .n)))))) (by kernel_rfl) u9 h e1 e2 Int.le_natAbs (Int.natAbs_of_nonneg (Int.not_lt.mp (fun u9 => lin [_] [_] (.L 1 (.a (.v 0) (.i 1)) (.i 0) (.E 1 (.z (.v 0)) (.v 0) .n)) (by kernel_rfl) u9 (Int.natAbs_of_nonneg (Int.not_lt.mp (fun u9 => lin [] [_] (.L 1 (.a (.v 0) (.i 1)) (.i 0) (.L 1 (.i 0) (.v 0) .n)) (by kernel_rfl) u9 hp)))))))⟩
theorem ap_mulg {S T k x y v u e f} (hx : Ap S x v e) (hy : Ap T y u f) (hS : 0 < S) (hT : 0 < T) (hv : 0 ≤ v) (hu : 0 ≤ u) (he : 0 ≤ e) (hf : 0 ≤ f) (hk : S * T = 1125899906842624 * k)
    (hb : v * u + (v * f + u * e + e * f) ≤ 7 * (S * T)) : Ap (S * T) (mul x y) (v * u) (v * f + u * e + e * f + k) := by
  have hP := PP_pos
  have hST : 0 < S * T := Int.mul_pos hS hT
  have hPP : 0 < PP * PP := Int.mul_pos hP hP
  obtain ⟨α, hα⟩ : ∃ α, val x * S = v * PP + α := ⟨val x * S - v * PP, by exact linz [] [_, _] (.v 0) (.a (.v 1) (.s (.v 0) (.v 1))) .n (by kernel_rfl)⟩
  obtain ⟨β, hβ⟩ : ∃ β, val y * T = u * PP + β := ⟨val y * T - u * PP, by exact linz [] [_, _] (.v 0) (.a (.v 1) (.s (.v 0) (.v 1))) .n (by kernel_rfl)⟩
  have a1 := hx.up
  have a2 := hx.dn
  have a3 := hy.up
  have a4 := hy.dn
  rw [hα] at a1 a2
  rw [hβ] at a3 a4
  have m1 := mul_abs (a := v * PP) (b := β) (A := v * PP) (B := f * PP) (by have := Int.mul_nonneg hv (Int.le_of_lt hP); exact Int.not_lt.mp (fun u9 => lin [] [_] (.L 1 (.a (.v 0) (.i 1)) (.g (.v 0)) (.L 2 (.i 0) (.v 0) .n)) (by kernel_rfl) u9 this)) (Int.le_refl _) (by exact Int.not_lt.mp (fun u9 => lin [] [_, _, _] (.L 1 (.a (.v 1) (.i 1)) (.g (.v 2)) (.L 1 (.s (.v 0) (.a (.v 0) (.v 1))) (.v 2) .n)) (by kernel_rfl) u9 a4)) (by exact Int.not_lt.mp (fun u9 => lin [] [_, _, _] (.L 1 (.a (.v 2) (.i 1)) (.v 1) (.L 1 (.s (.a (.v 0) (.v 1)) (.v 0)) (.v 2) .n)) (by kernel_rfl) u9 a3))
  have m2 := mul_abs (a := u * PP) (b := α) (A := u * PP) (B := e * PP) (by have := Int.mul_nonneg hu (Int.le_of_lt hP); exact Int.not_lt.mp (fun u9 => lin [] [_] (.L 1 (.a (.v 0) (.i 1)) (.g (.v 0)) (.L 2 (.i 0) (.v 0) .n)) (by kernel_rfl) u9 this)) (Int.le_refl _) (by exact Int.not_lt.mp (fun u9 => lin [] [_, _, _] (.L 1 (.a (.v 1) (.i 1)) (.g (.v 2)) (.L 1 (.s (.v 0) (.a (.v 0) (.v 1))) (.v 2) .n)) (by kernel_rfl) u9 a2)) (by exact Int.not_lt.mp (fun u9 => lin [] [_, _, _] (.L 1 (.a (.v 2) (.i 1)) (.v 1) (.L 1 (.s (.a (.v 0) (.v 1)) (.v 0)) (.v 2) .n)) (by kernel_rfl) u9 a1))
  have m3 := mul_abs (a := α) (b := β) (A := e * PP) (B := f * PP) (by exact Int.not_lt.mp (fun u9 => lin [] [_, _, _] (.L 1 (.a (.v 1) (.i 1)) (.g (.v 2)) (.L 1 (.s (.v 0) (.a (.v 0) (.v 1))) (.v 2) .n)) (by kernel_rfl) u9 a2)) (by exact Int.not_lt.mp (fun u9 => lin [] [_, _, _] (.L 1 (.a (.v 2) (.i 1)) (.v 1) (.L 1 (.s (.a (.v 0) (.v 1)) (.v 0)) (.v 2) .n)) (by kernel_rfl) u9 a1)) (by exact Int.not_lt.mp (fun u9 => lin [] [_, _, _] (.L 1 (.a (.v 1) (.i 1)) (.g (.v 2)) (.L 1 (.s (.v 0) (.a (.v 0) (.v 1))) (.v 2) .n)) (by kernel_rfl) u9 a4)) (by exact Int.not_lt.mp (fun u9 => lin [] [_, _, _] (.L 1 (.a (.v 2) (.i 1)) (.v 1) (.L 1 (.s (.a (.v 0) (.v 1)) (.v 0)) (.v 2) .n)) (by kernel_rfl) u9 a3))
  have ex : val x * val y * (S * T) = v * u * (PP * PP) + (v * PP * β + u * PP * α + α * β) := by
    rw [show val x * val y * (S * T) = (val x * S) * (val y * T) by ac_rfl, hα, hβ, Int.add_mul, Int.mul_add, Int.mul_add]
    rw [show v * PP * (u * PP) = v * u * (PP * PP) by ac_rfl, show α * (u * PP) = u * PP * α by ac_rfl]
    exact linz [] [_, _, _, _] (.a (.a (.v 0) (.v 1)) (.a (.v 2) (.v 3))) (.a (.v 0) (.a (.a (.v 1) (.v 2)) (.v 3))) .n (by kernel_rfl)
  have eE : v * PP * (f * PP) + u * PP * (e * PP) + e * PP * (f * PP) = (v * f + u * e + e * f) * (PP * PP) := by
    rw [Int.add_mul, Int.add_mul]
    rw [show v * PP * (f * PP) = v * f * (PP * PP) by ac_rfl, show u * PP * (e * PP) = u * e * (PP * PP) by ac_rfl, show e * PP * (f * PP) = e * f * (PP * PP) by ac_rfl]
  have hvu : 0 ≤ v * u := Int.mul_nonneg hv hu
  have hz : (val x * val y).natAbs < 2 ^ 1074 * 2 ^ 1077 := by
    have q := Int.mul_le_mul_of_nonneg_right hb (Int.le_of_lt hPP)
    rw [Int.add_mul, ← eE] at q
    have n0 : 0 ≤ v * u * (PP * PP) := Int.mul_nonneg hvu (Int.le_of_lt hPP)
    have b1 : val x * val y * (S * T) ≤ 7 * (PP * PP) * (S * T) := by
      rw [show 7 * (PP * PP) * (S * T) = 7 * (S * T) * (PP * PP) by ac_rfl]; exact Int.not_lt.mp (fun u9 => lin [] [_, _, _, _, _, _, _, _, _] (.L 1 (.a (.v 8) (.i 1)) (.v 6) (.L 1 (.v 1) (.v 0) (.L 1 (.v 3) (.v 2) (.L 1 (.v 5) (.v 4) (.E 1 (.v 6) (.a (.v 7) (.a (.a (.v 1) (.v 3)) (.v 5))) (.L 1 (.a (.v 7) (.a (.a (.v 0) (.v 2)) (.v 4))) (.v 8) .n)))))) (by kernel_rfl) u9 m1.2 m2.2 m3.2 ex q)
    have b2 : -(val x * val y) * (S * T) ≤ 7 * (PP * PP) * (S * T) := by
      rw [Int.neg_mul, show 7 * (PP * PP) * (S * T) = 7 * (S * T) * (PP * PP) by ac_rfl]; exact Int.not_lt.mp (fun u9 => lin [] [_, _, _, _, _, _, _, _, _] (.L 1 (.a (.v 8) (.i 1)) (.g (.v 6)) (.L 1 (.g (.v 0)) (.v 1) (.L 1 (.g (.v 2)) (.v 3) (.L 1 (.g (.v 4)) (.v 5) (.E (-1) (.v 6) (.a (.v 7) (.a (.a (.v 1) (.v 3)) (.v 5))) (.L 1 (.a (.v 7) (.a (.a (.v 0) (.v 2)) (.v 4))) (.v 8) (.L 2 (.i 0) (.v 7) .n))))))) (by kernel_rfl) u9 m1.1 m2.1 m3.1 ex q n0)
    have w1 := Int.le_of_mul_le_mul_right b1 hST
    have w2 := Int.le_of_mul_le_mul_right b2 hST
    have e8 : ((2 ^ 1074 * 2 ^ 1077 : Nat) : Int) = PP * PP * 8 := by decide +kernel
    have : ((val x * val y).natAbs : Int) < ((2 ^ 1074 * 2 ^ 1077 : Nat) : Int) := by
      rw [e8]
      generalize PP * PP = X at *
      generalize val x * val y = Z at *
      exact Or.elim (Int.le_total 0 (Z)) (fun q0 => Int.not_le.mp (fun u9 => lin [_] [_, _] (.L 1 (.r (.v 1) 8) (.z (.v 0)) (.L 1 (.v 0) (.m 7 (.v 1)) (.L 1 (.a (.i 0) (.i 1)) (.v 1) (.E 1 (.z (.v 0)) (.v 0) .n)))) (by kernel_rfl) u9 w1 hPP (Int.natAbs_of_nonneg (Int.not_lt.mp (fun u9 => lin [] [_] (.L 1 (.a (.v 0) (.i 1)) (.i 0) (.L 1 (.i 0) (.v 0) .n)) (by kernel_rfl) u9 q0))))) (fun q0 => Int.not_le.mp (fun u9 => lin [_] [_, _] (.L 1 (.r (.v 1) 8) (.z (.v 0)) (.L 1 (.g (.v 0)) (.m 7 (.v 1)) (.L 1 (.a (.i 0) (.i 1)) (.v 1) (.E 1 (.z (.v 0)) (.g (.v 0)) .n)))) (by kernel_rfl) u9 w2 hPP (Int.ofNat_natAbs_of_nonpos (Int.not_lt.mp (fun u9 => lin [] [_] (.L 1 (.a (.i 0) (.i 1)) (.v 0) (.L 1 (.v 0) (.i 0) .n)) (by kernel_rfl) u9 q0)))))
    exact Int.ofNat_lt.mp this
  obtain ⟨hfn, hu1, hd1⟩ := mul_near hx.fn hy.fn hz
  have hE : ((2 ^ 1074 * 2 ^ 1024 : Nat) : Int) * (S * T) = k * (PP * PP) := by
    have e0 : ((2 ^ 1074 * 2 ^ 1024 : Nat) : Int) = EE * PP := by decide +kernel
    rw [e0, hk, show EE * PP * (1125899906842624 * k) = EE * 1125899906842624 * k * PP by ac_rfl, PP_eq]
    ac_rfl
  have u' := Int.mul_le_mul_of_nonneg_right hu1 (Int.le_of_lt hST)
  have d' := Int.mul_le_mul_of_nonneg_right hd1 (Int.le_of_lt hST)
  change (val (mul x y) * PP - _) * _ ≤ _ at u'
  change (_ - val (mul x y) * PP) * _ ≤ _ at d'
  rw [hE, Int.sub_mul, ex, show val (mul x y) * PP * (S * T) = val (mul x y) * (S * T) * PP by ac_rfl] at u' d'
  have f1 : (val (mul x y) * (S * T) - v * u * PP) * PP ≤ (v * f + u * e + e * f + k) * PP * PP := by
    rw [Int.sub_mul, Int.mul_assoc _ PP PP, Int.mul_assoc _ PP PP, Int.add_mul _ k, ← eE]; exact Int.not_lt.mp (fun u9 => lin [] [_, _, _, _, _, _, _, _, _] (.L 1 (.a (.a (.a (.a (.v 0) (.v 2)) (.v 4)) (.v 8)) (.i 1)) (.s (.v 7) (.v 6)) (.L 1 (.v 1) (.v 0) (.L 1 (.v 3) (.v 2) (.L 1 (.v 5) (.v 4) (.L 1 (.s (.v 7) (.a (.v 6) (.a (.a (.v 1) (.v 3)) (.v 5)))) (.v 8) .n))))) (by kernel_rfl) u9 m1.2 m2.2 m3.2 u')
  have f2 : (v * u * PP - val (mul x y) * (S * T)) * PP ≤ (v * f + u * e + e * f + k) * PP * PP := by
    rw [Int.sub_mul, Int.mul_assoc _ PP PP, Int.mul_assoc _ PP PP, Int.add_mul _ k, ← eE]; exact Int.not_lt.mp (fun u9 => lin [] [_, _, _, _, _, _, _, _, _] (.L 1 (.a (.a (.a (.a (.v 0) (.v 2)) (.v 4)) (.v 8)) (.i 1)) (.s (.v 6) (.v 7)) (.L 1 (.g (.v 0)) (.v 1) (.L 1 (.g (.v 2)) (.v 3) (.L 1 (.g (.v 4)) (.v 5) (.L 1 (.s (.a (.v 6) (.a (.a (.v 1) (.v 3)) (.v 5))) (.v 7)) (.v 8) .n))))) (by kernel_rfl) u9 m1.1 m2.1 m3.1 d')
  exact ⟨hfn, Int.le_of_mul_le_mul_right f1 hP, Int.le_of_mul_le_mul_right f2 hP⟩
theorem vM_ap {z D T j e} (hz : Ap (6 * D * 1152921504606846976) z ((T + 6 * D * j) * 1152921504606846976) e) (hD : 1 ≤ D) (hD2 : D ≤ 16) (h0 : 0 ≤ T) (h1 : T < 6 * D) (he : 0 ≤ e) (he2 : e ≤ 1048576) :
    ∃ T', (T' = T ∨ (T = 0 ∧ T' = 6 * D)) ∧ Ap (6 * D * 1152921504606846976) (vM z) (T' * 1152921504606846976) (e + 262144) := by
  obtain ⟨hf, n, g1, g2, g3, g4⟩ := vM_near hz.fn
  have hP := PP_pos
  have hS : 0 < 6 * D * 1152921504606846976 := by exact Int.not_le.mp (fun u9 => lin [] [_] (.L 1 (.r (.m 6 (.v 0)) 1152921504606846976) (.i 0) (.L 6917529027641081856 (.i 1) (.v 0) .n)) (by kernel_rfl) u9 hD)
  have hEE : 2 * EE * (6 * D * 1152921504606846976) = 12288 * D * PP := by
    rw [← PP_eq, show (1152921504606846976 : Int) = 1125899906842624 * 1024 by decide]
    rw [show 2 * EE * (6 * D * (1125899906842624 * 1024)) = (2 * 6 * 1024) * (D * (EE * 1125899906842624)) by ac_rfl, show (12288 : Int) = 2 * 6 * 1024 by decide]
    ac_rfl
  have q1 := Int.mul_le_mul_of_nonneg_right g1 (Int.le_of_lt hS)
  have q2 := Int.mul_le_mul_of_nonneg_right g2 (Int.le_of_lt hS)
  have q3 := Int.mul_le_mul_of_nonneg_right g3 (Int.le_of_lt hS)
  have q4 := Int.mul_le_mul_of_nonneg_right g4 (Int.le_of_lt hS)
  rw [Int.sub_mul, Int.sub_mul, hEE] at q1
  rw [Int.sub_mul, Int.sub_mul, hEE] at q2
  rw [Int.neg_mul, hEE] at q3
  rw [Int.add_mul, hEE] at q4
  have a1 := hz.up
  have a2 := hz.dn
  have hd : 12288 * D * PP ≤ 196608 * PP := Int.mul_le_mul_of_nonneg_right (by exact Int.not_lt.mp (fun u9 => lin [] [_] (.L 1 (.a (.i 196608) (.i 1)) (.m 12288 (.v 0)) (.L 12288 (.v 0) (.i 16) .n)) (by kernel_rfl) u9 hD2)) (Int.le_of_lt hP)
  have ej : (T + 6 * D * j) * 1152921504606846976 * PP - n * PP * (6 * D * 1152921504606846976) = (T + 6 * D * (j - n)) * 1152921504606846976 * PP := by
    rw [show n * PP * (6 * D * 1152921504606846976) = 6 * D * n * 1152921504606846976 * PP by ac_rfl, ← Int.sub_mul, ← Int.sub_mul, Int.mul_sub]
    congr 2
    exact linz [] [_, _, _] (.s (.a (.v 0) (.v 1)) (.v 2)) (.a (.v 0) (.s (.v 1) (.v 2))) .n (by kernel_rfl)
  have u1 : val (vM z) * (6 * D * 1152921504606846976) - (T + 6 * D * (j - n)) * 1152921504606846976 * PP ≤ (e + 196608) * PP := by rw [Int.add_mul e, ← ej]; exact Int.not_lt.mp (fun u9 => lin [] [_, _, _, _, _, _, _] (.L 1 (.a (.a (.v 5) (.m 196608 (.v 6))) (.i 1)) (.s (.v 1) (.s (.v 4) (.v 3))) (.L 1 (.s (.v 1) (.s (.v 2) (.v 3))) (.v 0) (.L 1 (.s (.v 2) (.v 4)) (.v 5) (.L 1 (.v 0) (.m 196608 (.v 6)) .n)))) (by kernel_rfl) u9 q1 a1 hd)
  have u2 : (T + 6 * D * (j - n)) * 1152921504606846976 * PP - val (vM z) * (6 * D * 1152921504606846976) ≤ (e + 196608) * PP := by rw [Int.add_mul e, ← ej]; exact Int.not_lt.mp (fun u9 => lin [] [_, _, _, _, _, _, _] (.L 1 (.a (.a (.v 5) (.m 196608 (.v 6))) (.i 1)) (.s (.s (.v 4) (.v 2)) (.v 3)) (.L 1 (.s (.s (.v 1) (.v 2)) (.v 3)) (.v 0) (.L 1 (.s (.v 4) (.v 1)) (.v 5) (.L 1 (.v 0) (.m 196608 (.v 6)) .n)))) (by kernel_rfl) u9 q2 a2 hd)
  have l1 : -(e + 393216) * PP ≤ (T + 6 * D * (j - n)) * 1152921504606846976 * PP := by rw [Int.neg_mul, Int.add_mul e]; rw [Int.add_mul e] at u1; lia
  have l2 : (T + 6 * D * (j - n)) * 1152921504606846976 * PP ≤ (6 * D * 1152921504606846976 + (e + 393216)) * PP := by
    rw [Int.add_mul (6 * D * 1152921504606846976), Int.add_mul e]; rw [Int.add_mul e] at u2
    rw [show PP * (6 * D * 1152921504606846976) = 6 * D * 1152921504606846976 * PP by ac_rfl] at q4
    lia
  have l1 := Int.le_of_mul_le_mul_right l1 hP
  have l2 := Int.le_of_mul_le_mul_right l2 hP
  have hn : j - n = 0 ∨ (j - n = 1 ∧ T = 0) := by
    rcases Int.lt_trichotomy (j - n) 0 with h | h | h
    · have : 6 * D * (j - n) ≤ 6 * D * (-1) := Int.mul_le_mul_of_nonneg_left (by exact Int.not_lt.mp (fun u9 => lin [] [_, _] (.L 1 (.a (.i (-1)) (.i 1)) (.s (.v 0) (.v 1)) (.L 1 (.a (.s (.v 0) (.v 1)) (.i 1)) (.i 0) .n)) (by kernel_rfl) u9 h)) (by exact Int.not_lt.mp (fun u9 => lin [] [_] (.L 1 (.a (.m 6 (.v 0)) (.i 1)) (.i 0) (.L 6 (.i 1) (.v 0) .n)) (by kernel_rfl) u9 hD))
      exact Or.inl (Int.le_antisymm (Int.not_lt.mp (fun u9 => lin [] [_, _, _, _, _, _] (.L 0 (.a (.i 0) (.i 1)) (.s (.v 4) (.v 5)) (.L 1152921504606846976 (.a (.v 0) (.i 1)) (.m 6 (.v 1)) (.L 1 (.v 2) (.i 1048576) (.L 1 (.g (.a (.v 2) (.i 393216))) (.r (.a (.v 0) (.v 3)) 1152921504606846976) (.L 1152921504606846976 (.v 3) (.r (.m 6 (.v 1)) (-1)) .n))))) (by kernel_rfl) u9 h1 he2 l1 this)) (Int.not_lt.mp (fun u9 => lin [] [_, _, _, _, _, _] (.L 0 (.a (.s (.v 4) (.v 5)) (.i 1)) (.i 0) (.L 1152921504606846976 (.a (.v 0) (.i 1)) (.m 6 (.v 1)) (.L 1 (.v 2) (.i 1048576) (.L 1 (.g (.a (.v 2) (.i 393216))) (.r (.a (.v 0) (.v 3)) 1152921504606846976) (.L 1152921504606846976 (.v 3) (.r (.m 6 (.v 1)) (-1)) .n))))) (by kernel_rfl) u9 h1 he2 l1 this)))
    · exact .inl h
    · by_cases h' : j - n = 1
      · rw [h'] at l2
        exact .inr ⟨h', by exact Int.le_antisymm (Int.not_lt.mp (fun u9 => lin [] [_, _, _] (.L 1152921504606846976 (.a (.i 0) (.i 1)) (.v 0) (.L 1 (.v 1) (.i 1048576) (.L 1 (.r (.a (.v 0) (.r (.m 6 (.v 2)) 1)) 1152921504606846976) (.a (.r (.m 6 (.v 2)) 1152921504606846976) (.a (.v 1) (.i 393216))) .n))) (by kernel_rfl) u9 he2 l2)) (Int.not_lt.mp (fun u9 => lin [] [_] (.L 1 (.a (.v 0) (.i 1)) (.i 0) (.L 1 (.i 0) (.v 0) .n)) (by kernel_rfl) u9 h0))⟩
      · have : 6 * D * 2 ≤ 6 * D * (j - n) := Int.mul_le_mul_of_nonneg_left (by exact Or.elim (Int.lt_or_gt_of_ne h') (fun q0 => Int.not_lt.mp (fun u9 => lin [] [_, _] (.L 0 (.a (.s (.v 0) (.v 1)) (.i 1)) (.i 2) (.L 1 (.a (.i 0) (.i 1)) (.s (.v 0) (.v 1)) (.L 1 (.a (.s (.v 0) (.v 1)) (.i 1)) (.i 1) .n))) (by kernel_rfl) u9 h q0)) (fun q0 => Int.not_lt.mp (fun u9 => lin [] [_, _] (.L 1 (.a (.s (.v 0) (.v 1)) (.i 1)) (.i 2) (.L 1 (.a (.i 1) (.i 1)) (.s (.v 0) (.v 1)) .n)) (by kernel_rfl) u9 q0))) (by exact Int.not_lt.mp (fun u9 => lin [] [_] (.L 1 (.a (.m 6 (.v 0)) (.i 1)) (.i 0) (.L 6 (.i 1) (.v 0) .n)) (by kernel_rfl) u9 hD))
        exact Or.inl (Int.le_antisymm (Int.not_lt.mp (fun u9 => lin [] [_, _, _, _, _, _] (.L 0 (.a (.i 0) (.i 1)) (.s (.v 4) (.v 5)) (.L 6917529027641081856 (.i 1) (.v 0) (.L 1152921504606846976 (.i 0) (.v 1) (.L 1 (.v 2) (.i 1048576) (.L 1 (.r (.a (.v 1) (.v 3)) 1152921504606846976) (.a (.r (.m 6 (.v 0)) 1152921504606846976) (.a (.v 2) (.i 393216))) (.L 1152921504606846976 (.r (.m 6 (.v 0)) 2) (.v 3) .n)))))) (by kernel_rfl) u9 hD h0 he2 l2 this)) (Int.not_lt.mp (fun u9 => lin [] [_, _, _, _, _, _] (.L 0 (.a (.s (.v 4) (.v 5)) (.i 1)) (.i 0) (.L 6917529027641081856 (.i 1) (.v 0) (.L 1152921504606846976 (.i 0) (.v 1) (.L 1 (.v 2) (.i 1048576) (.L 1 (.r (.a (.v 1) (.v 3)) 1152921504606846976) (.a (.r (.m 6 (.v 0)) 1152921504606846976) (.a (.v 2) (.i 393216))) (.L 1152921504606846976 (.r (.m 6 (.v 0)) 2) (.v 3) .n)))))) (by kernel_rfl) u9 hD h0 he2 l2 this)))
  have hw : (e + 196608) * PP ≤ (e + 262144) * PP := Int.mul_le_mul_of_nonneg_right (by exact Int.not_lt.mp (fun u9 => lin [] [_] (.L 1 (.a (.a (.v 0) (.i 262144)) (.i 1)) (.a (.v 0) (.i 196608)) .n) (by kernel_rfl) u9)) (Int.le_of_lt hP)
  refine ⟨T + 6 * D * (j - n), ?_, hf, by lia, by lia⟩
  rcases hn with h | ⟨h, h2⟩
  · left; rw [h]; exact linz [] [_, _] (.a (.v 0) (.r (.m 6 (.v 1)) 0)) (.v 0) .n (by kernel_rfl)
  · right; rw [h]; exact ⟨h2, by exact linz [] [_, _] (.a (.v 0) (.r (.m 6 (.v 1)) 1)) (.m 6 (.v 1)) (.E (-1) (.v 0) (.i 0) .n) (by kernel_rfl) h2⟩
theorem const_ap {c : UInt64} {n : Nat} (hc : isFinite c = true) (h : Nat.ble ((val c * ((6 : Nat) : Int) - ((n * 2 ^ 1074 : Nat) : Int)).natAbs * 1152921504606846976) (256 * 2 ^ 1074) = true) : Ap (6 * 1152921504606846976) c ((n : Int) * 1152921504606846976) 256 := by
  have h := Nat.le_of_ble_eq_true h
  have := ap_from (K := 1152921504606846976) rfl (fn_of hc) h
  exact ap_to this rfl rfl (Int.le_refl _)
theorem k_16 : Ap (6 * 1152921504606846976) 4595172819793696085 (1 * 1152921504606846976) 256 := const_ap (n := 1) (by decide +kernel) (by decide +kernel)
theorem k_23 : Ap (6 * 1152921504606846976) 4604180019048437077 (4 * 1152921504606846976) 256 := const_ap (n := 4) (by decide +kernel) (by decide +kernel)
theorem k_six : Ap 1 4618441417868443648 6 0 := ⟨fn_of (by decide +kernel), by decide +kernel, by decide +kernel⟩
/-- the ramp -/
noncomputable def fT (D T : Int) : Int := if T ≤ D then T else if T ≤ 3 * D then D else if T ≤ 4 * D then 4 * D - T else 0
theorem ramp {c w x D T m : _} (hc : Ap (16 * 1152921504606846976) c (D * 1152921504606846976) 147456) (hw : Ap (6 * D * 1152921504606846976) w (T * 1152921504606846976) 700000) (hx : Ap (16 * 1152921504606846976) x (m * 1152921504606846976) 65536) (hD : 1 ≤ D) (h0 : 0 ≤ T) (h1 : T ≤ D) (hm : 0 ≤ m) (h2 : m + D ≤ 16) :
    OkF (Float64.add x (Float64.mul (Float64.mul c w) 4618441417868443648)) ∧ lampI (Float64.add x (Float64.mul (Float64.mul c w) 4618441417868443648)) = m + T := by
  have p1 := ap_mulg (k := D * 113336795588871485128704) hc hw (by decide) (by exact Int.not_le.mp (fun u9 => lin [] [_] (.L 1 (.r (.m 6 (.v 0)) 1152921504606846976) (.i 0) (.L 6917529027641081856 (.i 1) (.v 0) .n)) (by kernel_rfl) u9 hD)) (by exact Int.not_lt.mp (fun u9 => lin [] [_] (.L 1 (.a (.r (.v 0) 1152921504606846976) (.i 1)) (.i 0) (.L 1152921504606846976 (.i 1) (.v 0) .n)) (by kernel_rfl) u9 hD)) (by exact Int.not_lt.mp (fun u9 => lin [] [_] (.L 1 (.a (.r (.v 0) 1152921504606846976) (.i 1)) (.i 0) (.L 1152921504606846976 (.i 0) (.v 0) .n)) (by kernel_rfl) u9 h0)) (by decide) (by decide) (by exact linz [] [_] (.m (16 * 1152921504606846976) (.r (.m 6 (.v 0)) 1152921504606846976)) (.m 1125899906842624 (.r (.v 0) 113336795588871485128704)) .n (by kernel_rfl)) ?b1
  case b1 =>
    have q : D * T ≤ 16 * D := by rw [Int.mul_comm D T]; exact Int.mul_le_mul_of_nonneg_right (by exact Int.not_lt.mp (fun u9 => lin [] [_, _, _] (.L 1 (.a (.i 16) (.i 1)) (.v 0) (.L 1 (.v 0) (.v 1) (.L 1 (.i 0) (.v 2) (.L 1 (.a (.v 2) (.v 1)) (.i 16) .n)))) (by kernel_rfl) u9 h1 hm h2)) (by exact Int.not_lt.mp (fun u9 => lin [] [_] (.L 1 (.a (.v 0) (.i 1)) (.i 0) (.L 1 (.i 1) (.v 0) .n)) (by kernel_rfl) u9 hD))
    rw [show D * 1152921504606846976 * (T * 1152921504606846976) = D * T * 1329227995784915872903807060280344576 by rw [show D * 1152921504606846976 * (T * 1152921504606846976) = D * T * (1152921504606846976 * 1152921504606846976) by ac_rfl]; rfl]
    exact Int.not_lt.mp (fun u9 => lin [] [_, _, _] (.L 1 (.a (.m 7 (.m (16 * 1152921504606846976) (.r (.m 6 (.v 0)) 1152921504606846976))) (.i 1)) (.a (.r (.v 2) 1329227995784915872903807060280344576) (.a (.a (.r (.r (.v 0) 1152921504606846976) 700000) (.r (.r (.v 1) 1152921504606846976) 147456)) (.i (147456 * 700000)))) (.L 871973565234903835574650823443795148800 (.i 1) (.v 0) (.L 170005193383307227693056 (.v 1) (.v 0) (.L 1329227995784915872903807060280344576 (.v 2) (.m 16 (.v 0)) .n)))) (by kernel_rfl) u9 hD h1 q)
  have p2 := ap_to (S' := 127605887595351923798765477786913079296 * D) (v' := T * 1329227995784915872903807060280344576 * D) (e' := 1090387042197074815221760 * D) p1 (by exact linz [] [_] (.m (16 * 1152921504606846976) (.r (.m 6 (.v 0)) 1152921504606846976)) (.m 127605887595351923798765477786913079296 (.v 0)) .n (by kernel_rfl)) (by rw [show D * 1152921504606846976 * (T * 1152921504606846976) = T * (1152921504606846976 * 1152921504606846976) * D by ac_rfl]; rfl) (by exact Int.not_lt.mp (fun u9 => lin [] [_, _] (.L 1 (.a (.m 1090387042197074815221760 (.v 0)) (.i 1)) (.a (.a (.a (.r (.r (.v 0) 1152921504606846976) 700000) (.r (.r (.v 1) 1152921504606846976) 147456)) (.i (147456 * 700000))) (.r (.v 0) 113336795588871485128704)) (.L 103219200000 (.i 1) (.v 0) (.L 170005193383307227693056 (.v 1) (.v 0) .n))) (by kernel_rfl) u9 hD h1))
  have p3 := ap_cancel (by exact Int.not_le.mp (fun u9 => lin [] [_] (.L 1 (.v 0) (.i 0) (.L 1 (.i 1) (.v 0) .n)) (by kernel_rfl) u9 hD)) p2
  have p4 := ap_mulg (k := 113336795588871485128704) p3 k_six (by decide) (by decide) (by exact Int.not_lt.mp (fun u9 => lin [] [_] (.L 1 (.a (.r (.v 0) 1329227995784915872903807060280344576) (.i 1)) (.i 0) (.L 1329227995784915872903807060280344576 (.i 0) (.v 0) .n)) (by kernel_rfl) u9 h0)) (by decide) (by decide) (by decide) (by decide) (by exact Int.not_lt.mp (fun u9 => lin [] [_, _, _] (.L 1 (.a (.i (7 * (127605887595351923798765477786913079296 * 1))) (.i 1)) (.a (.r (.r (.v 0) 1329227995784915872903807060280344576) 6) (.a (.a (.r (.r (.v 0) 1329227995784915872903807060280344576) 0) (.i (6 * 1090387042197074815221760))) (.i (1090387042197074815221760 * 0)))) (.L 7975367974709495237422842361682067456 (.v 0) (.v 1) (.L 7975367974709495237422842361682067456 (.i 0) (.v 2) (.L 7975367974709495237422842361682067456 (.a (.v 2) (.v 1)) (.i 16) .n)))) (by kernel_rfl) u9 h1 hm h2))
  have p4 := ap_to (S' := 1125899906842624 * 113336795588871485128704) (v' := T * 7975367974709495237422842361682067456) (e' := 6655659048771320376459264) p4 (by decide) (by exact linz [] [_] (.r (.r (.v 0) 1329227995784915872903807060280344576) 6) (.r (.v 0) 7975367974709495237422842361682067456) .n (by kernel_rfl)) (by exact Int.not_lt.mp (fun u9 => lin [] [_] (.L 1 (.a (.i 6655659048771320376459264) (.i 1)) (.a (.a (.a (.r (.r (.v 0) 1329227995784915872903807060280344576) 0) (.i (6 * 1090387042197074815221760))) (.i (1090387042197074815221760 * 0))) (.i 113336795588871485128704)) .n) (by kernel_rfl) u9))
  have x2 := ap_scale (6 * 1152921504606846976) (by decide) hx
  have x2 := ap_to (S' := 1125899906842624 * 113336795588871485128704) (v' := m * 7975367974709495237422842361682067456) (e' := 453347182355485940514816) x2 (by decide) (by rw [Int.mul_assoc]; rfl) (by decide)
  have s := ap_add x2 p4 (by decide) (by exact Int.not_lt.mp (fun u9 => lin [] [_, _, _] (.L 1 (.a (.i (7 * (1125899906842624 * 113336795588871485128704))) (.i 1)) (.a (.a (.r (.v 2) 7975367974709495237422842361682067456) (.r (.v 0) 7975367974709495237422842361682067456)) (.i (453347182355485940514816 + 6655659048771320376459264))) (.L 7975367974709495237422842361682067456 (.v 0) (.v 1) (.L 7975367974709495237422842361682067456 (.a (.v 2) (.v 1)) (.i 16) .n))) (by kernel_rfl) u9 h1 h2)) (by exact Int.not_lt.mp (fun u9 => lin [] [_, _] (.L 1 (.a (.i (7 * (1125899906842624 * 113336795588871485128704))) (.i 1)) (.a (.g (.a (.r (.v 1) 7975367974709495237422842361682067456) (.r (.v 0) 7975367974709495237422842361682067456))) (.i (453347182355485940514816 + 6655659048771320376459264))) (.L 7975367974709495237422842361682067456 (.i 0) (.v 0) (.L 7975367974709495237422842361682067456 (.i 0) (.v 1) .n))) (by kernel_rfl) u9 h0 hm))
  have := lamp_of (n := (m + T).toNat) (by decide) s (by exact Or.elim (Int.le_total 0 (m + T)) (fun q0 => Nat.not_lt.mp (fun u9 => lin [_] [_, _, _] (.l 1 (.a (.c 16) (.c 1)) (.v 0) (.L 1 (.v 0) (.v 1) (.L 1 (.a (.v 2) (.v 1)) (.i 16) (.E 1 (.z (.v 0)) (.a (.v 2) (.v 0)) .n)))) (by kernel_rfl) u9 h1 h2 (Int.toNat_of_nonneg (Int.not_lt.mp (fun u9 => lin [] [_, _] (.L 1 (.a (.a (.v 1) (.v 0)) (.i 1)) (.i 0) (.L 1 (.i 0) (.a (.v 1) (.v 0)) .n)) (by kernel_rfl) u9 q0))))) (fun q0 => Nat.not_lt.mp (fun u9 => lin [_] [] (.l 1 (.a (.c 16) (.c 1)) (.v 0) (.e 1 (.v 0) (.c 0) .n)) (by kernel_rfl) u9 (Int.toNat_of_nonpos (Int.not_lt.mp (fun u9 => lin [] [_, _] (.L 1 (.a (.i 0) (.i 1)) (.a (.v 1) (.v 0)) (.L 1 (.a (.v 1) (.v 0)) (.i 0) .n)) (by kernel_rfl) u9 q0)))))) (by exact Int.not_lt.mp (fun u9 => lin [_] [_, _] (.L 1 (.a (.a (.r (.m 4 (.z (.v 0))) (1125899906842624 * 113336795588871485128704)) (.i (1125899906842624 * 113336795588871485128704))) (.i 1)) (.m 64 (.a (.a (.r (.v 0) 7975367974709495237422842361682067456) (.r (.v 1) 7975367974709495237422842361682067456)) (.i ((453347182355485940514816 + 6655659048771320376459264) + 113336795588871485128704)))) (.L 510423550381407695195061911147652317184 (.a (.v 0) (.v 1)) (.z (.v 0)) .n)) (by kernel_rfl) u9 (Int.self_le_toNat _))) (by exact Int.not_lt.mp (fun u9 => lin [_] [_, _] (.L 1 (.a (.a (.m 64 (.s (.a (.r (.v 1) 7975367974709495237422842361682067456) (.r (.v 0) 7975367974709495237422842361682067456)) (.i ((453347182355485940514816 + 6655659048771320376459264) + 113336795588871485128704)))) (.i (1125899906842624 * 113336795588871485128704))) (.i 1)) (.r (.m 4 (.z (.v 0))) (1125899906842624 * 113336795588871485128704)) (.E 510423550381407695195061911147652317184 (.z (.v 0)) (.a (.v 1) (.v 0)) .n)) (by kernel_rfl) u9 (Int.toNat_of_nonneg (Int.not_lt.mp (fun u9 => lin [] [_, _] (.L 1 (.a (.a (.v 1) (.v 0)) (.i 1)) (.i 0) (.L 1 (.i 0) (.v 0) (.L 1 (.i 0) (.v 1) .n))) (by kernel_rfl) u9 h0 hm)))))
  rw [show (((m + T).toNat : Nat) : Int) = m + T by exact linz [_] [_, _] (.z (.v 0)) (.a (.v 1) (.v 0)) (.E (-1) (.z (.v 0)) (.a (.v 1) (.v 0)) .n) (by kernel_rfl) (Int.toNat_of_nonneg (Int.not_lt.mp (fun u9 => lin [] [_, _] (.L 1 (.a (.a (.v 1) (.v 0)) (.i 1)) (.i 0) (.L 1 (.i 0) (.v 0) (.L 1 (.i 0) (.v 1) .n))) (by kernel_rfl) u9 h0 hm)))] at this
  exact this
theorem vF_ap {x y z D T j m : _} (hx : Ap (16 * 1152921504606846976) x (m * 1152921504606846976) 65536) (hy : Ap (16 * 1152921504606846976) y ((m + D) * 1152921504606846976) 65536) (hz : Ap (6 * D * 1152921504606846976) z ((T + 6 * D * j) * 1152921504606846976) 262144)
    (hD : 1 ≤ D) (hm : 0 ≤ m) (h2 : m + D ≤ 16) (h0 : 0 ≤ T) (h1 : T < 6 * D) : OkF (vF x y z) ∧ lampI (vF x y z) = m + fT D T := by
  obtain ⟨T', hT, hw⟩ := vM_ap hz hD (by exact Int.not_lt.mp (fun u9 => lin [] [_, _] (.L 1 (.a (.i 16) (.i 1)) (.v 1) (.L 1 (.i 0) (.v 0) (.L 1 (.a (.v 0) (.v 1)) (.i 16) .n))) (by kernel_rfl) u9 hm h2)) h0 h1 (by decide) (by decide)
  have hP := PP_pos
  have hK : (0 : Int) < 1152921504606846976 := by decide
  have hfT : fT D T = fT D T' := by
    rcases hT with h | ⟨h, h'⟩
    · rw [h]
    · rw [h, h']; unfold fT; rw [if_pos (by exact Int.not_lt.mp (fun u9 => lin [] [_] (.L 1 (.a (.v 0) (.i 1)) (.i 0) (.L 1 (.i 1) (.v 0) .n)) (by kernel_rfl) u9 hD)), if_neg (by exact fun u9 => lin [] [_] (.L 1 (.m 6 (.v 0)) (.v 0) (.L 5 (.i 1) (.v 0) .n)) (by kernel_rfl) u9 hD), if_neg (by exact fun u9 => lin [] [_] (.L 1 (.m 6 (.v 0)) (.m 3 (.v 0)) (.L 3 (.i 1) (.v 0) .n)) (by kernel_rfl) u9 hD), if_neg (by exact fun u9 => lin [] [_] (.L 1 (.m 6 (.v 0)) (.m 4 (.v 0)) (.L 2 (.i 1) (.v 0) .n)) (by kernel_rfl) u9 hD)]
  have hT' : 0 ≤ T' ∧ T' ≤ 6 * D := by exact ⟨Or.elim hT (fun q0 => Int.not_lt.mp (fun u9 => lin [] [_, _] (.L 1 (.a (.v 1) (.i 1)) (.i 0) (.L 1 (.i 0) (.v 0) (.E (-1) (.v 1) (.v 0) .n))) (by kernel_rfl) u9 h0 q0)) (fun q0 => Int.not_lt.mp (fun u9 => lin [] [_, _] (.L 1 (.a (.v 1) (.i 1)) (.i 0) (.L 6 (.i 1) (.v 0) (.E (-1) (.v 1) (.m 6 (.v 0)) .n))) (by kernel_rfl) u9 hD q0.2)), Or.elim hT (fun q1 => Int.not_lt.mp (fun u9 => lin [] [_, _, _] (.L 1 (.a (.m 6 (.v 0)) (.i 1)) (.v 2) (.L 1 (.a (.v 1) (.i 1)) (.m 6 (.v 0)) (.E 1 (.v 2) (.v 1) .n))) (by kernel_rfl) u9 h1 q1)) (fun q1 => Int.not_lt.mp (fun u9 => lin [] [_, _] (.L 1 (.a (.m 6 (.v 0)) (.i 1)) (.v 1) (.E 1 (.v 1) (.m 6 (.v 0)) .n)) (by kernel_rfl) u9 q1.2))⟩
  rw [hfT]
  clear hT hfT h0 h1
  have hc : Ap (16 * 1152921504606846976) (Float64.sub y x) (D * 1152921504606846976) 147456 := by
    have y2 := ap_to (S' := 1125899906842624 * 16384) (v' := (m + D) * 1152921504606846976) (e' := 65536) hy (by decide) rfl (by decide)
    have x2 := ap_to (S' := 1125899906842624 * 16384) (v' := m * 1152921504606846976) (e' := 65536) hx (by decide) rfl (by decide)
    exact ap_to (ap_sub y2 x2 (by decide) (by exact Int.not_lt.mp (fun u9 => lin [] [_, _] (.L 1 (.a (.i (7 * (1125899906842624 * 16384))) (.i 1)) (.a (.s (.r (.a (.v 0) (.v 1)) 1152921504606846976) (.r (.v 0) 1152921504606846976)) (.i (65536 + 65536))) (.L 1152921504606846976 (.i 0) (.v 0) (.L 1152921504606846976 (.a (.v 0) (.v 1)) (.i 16) .n))) (by kernel_rfl) u9 hm h2)) (by exact Int.not_lt.mp (fun u9 => lin [] [_, _] (.L 1 (.a (.i (7 * (1125899906842624 * 16384))) (.i 1)) (.a (.g (.s (.r (.a (.v 1) (.v 0)) 1152921504606846976) (.r (.v 1) 1152921504606846976))) (.i (65536 + 65536))) (.L 1152921504606846976 (.i 1) (.v 0) .n)) (by kernel_rfl) u9 hD))) (by decide) (by exact linz [] [_, _] (.s (.r (.a (.v 0) (.v 1)) 1152921504606846976) (.r (.v 0) 1152921504606846976)) (.r (.v 1) 1152921504606846976) .n (by kernel_rfl)) (by decide)
  have w1 := hw.up
  have w2 := hw.dn
  have e1 : ∀ c : UInt64, val c * (6 * D * 1152921504606846976) = val c * (6 * 1152921504606846976) * D := fun c => by ac_rfl
  have c1 := Int.mul_le_mul_of_nonneg_right k_16.up (show 0 ≤ D by exact Int.not_lt.mp (fun u9 => lin [] [_] (.L 1 (.a (.v 0) (.i 1)) (.i 0) (.L 1 (.i 1) (.v 0) .n)) (by kernel_rfl) u9 hD))
  have c2 := Int.mul_le_mul_of_nonneg_right k_16.dn (show 0 ≤ D by exact Int.not_lt.mp (fun u9 => lin [] [_] (.L 1 (.a (.v 0) (.i 1)) (.i 0) (.L 1 (.i 1) (.v 0) .n)) (by kernel_rfl) u9 hD))
  have c3 := Int.mul_le_mul_of_nonneg_right k_23.up (show 0 ≤ D by exact Int.not_lt.mp (fun u9 => lin [] [_] (.L 1 (.a (.v 0) (.i 1)) (.i 0) (.L 1 (.i 1) (.v 0) .n)) (by kernel_rfl) u9 hD))
  have c4 := Int.mul_le_mul_of_nonneg_right k_23.dn (show 0 ≤ D by exact Int.not_lt.mp (fun u9 => lin [] [_] (.L 1 (.a (.v 0) (.i 1)) (.i 0) (.L 1 (.i 1) (.v 0) .n)) (by kernel_rfl) u9 hD))
  rw [Int.sub_mul, ← e1] at c1 c2 c3 c4
  have hS : 0 < 6 * D * 1152921504606846976 := by exact Int.not_le.mp (fun u9 => lin [] [_] (.L 1 (.r (.m 6 (.v 0)) 1152921504606846976) (.i 0) (.L 6917529027641081856 (.i 1) (.v 0) .n)) (by kernel_rfl) u9 hD)
  have hh := half.2
  have lt_of : ∀ c : UInt64, val (vM z) < val c → val (vM z) * (6 * D * 1152921504606846976) < val c * (6 * D * 1152921504606846976) := fun c h => Int.mul_lt_mul_of_pos_right h hS
  have ge_of : ∀ c : UInt64, ¬ val (vM z) < val c → val c * (6 * D * 1152921504606846976) ≤ val (vM z) * (6 * D * 1152921504606846976) := fun c h => Int.mul_le_mul_of_nonneg_right (by exact Int.not_lt.mp (fun u9 => lin [] [_, _] (.L 1 (.a (.v 1) (.i 1)) (.v 0) (.L 1 (.v 0) (.v 1) .n)) (by kernel_rfl) u9 (Int.not_lt.mp h))) (Int.le_of_lt hS)
  have hh3 : val 4602678819172646912 * (6 * D * 1152921504606846976) = 3 * D * 1152921504606846976 * PP := by
    rw [← hh]; rw [show val 4602678819172646912 * (6 * D * 1152921504606846976) = val 4602678819172646912 * ((2 * 3) * D * 1152921504606846976) by rfl]; ac_rfl
  have drop : ∀ a b : Int, a * PP ≤ b * PP → a ≤ b := fun a b h => Int.le_of_mul_le_mul_right h hP
  have dd : 256 * PP * D ≤ 65536 * PP := by
    rw [show 256 * PP * D = 256 * D * PP by ac_rfl]; exact Int.mul_le_mul_of_nonneg_right (by exact Int.not_lt.mp (fun u9 => lin [] [_, _] (.L 1 (.a (.i 65536) (.i 1)) (.m 256 (.v 1)) (.L 256 (.i 0) (.v 0) (.L 256 (.a (.v 0) (.v 1)) (.i 16) .n))) (by kernel_rfl) u9 hm h2)) (Int.le_of_lt hP)
  unfold vF
  rw [cmp_lt hw.fn k_16.fn, cmp_lt hw.fn half.1, cmp_lt hw.fn k_23.fn]
  by_cases b1 : val (vM z) < val 4595172819793696085
  · rw [if_pos (decide_eq_true b1)]
    have q := lt_of _ b1
    have hle : T' ≤ D := by
      have := drop (T' * 1152921504606846976) (D * 1152921504606846976 + 65536 + 524288) (by
        rw [Int.add_mul, Int.add_mul]
        rw [show 1 * 1152921504606846976 * PP * D = D * 1152921504606846976 * PP by rw [Int.one_mul]; ac_rfl] at c1
        exact Int.not_lt.mp (fun u9 => lin [] [_, _, _, _, _, _] (.L 1 (.a (.a (.a (.v 4) (.m 65536 (.v 2))) (.m 524288 (.v 2))) (.i 1)) (.v 0) (.L 1 (.s (.v 0) (.v 1)) (.m (262144 + 262144) (.v 2)) (.L 1 (.s (.v 3) (.v 4)) (.v 5) (.L 1 (.v 5) (.m 65536 (.v 2)) (.L 1 (.a (.v 1) (.i 1)) (.v 3) .n))))) (by kernel_rfl) u9 w2 c1 dd q))
      exact Int.not_lt.mp (fun u9 => lin [] [_, _] (.L 1152921504606846976 (.a (.v 1) (.i 1)) (.v 0) (.L 1 (.r (.v 0) 1152921504606846976) (.a (.a (.r (.v 1) 1152921504606846976) (.i 65536)) (.i 524288)) .n)) (by kernel_rfl) u9 this)
    rw [show fT D T' = T' by unfold fT; rw [if_pos hle]]
    exact ramp hc (ap_to hw rfl rfl (by decide)) hx hD hT'.1 hle hm h2
  · rw [if_neg (by rw [decide_eq_true_eq]; exact b1)]
    have q := ge_of _ b1
    have hge : D ≤ T' := by
      have := drop (D * 1152921504606846976) (T' * 1152921504606846976 + 65536 + 524288) (by
        rw [Int.add_mul, Int.add_mul]
        rw [show 1 * 1152921504606846976 * PP * D = D * 1152921504606846976 * PP by rw [Int.one_mul]; ac_rfl] at c2
        exact Int.not_lt.mp (fun u9 => lin [] [_, _, _, _, _, _] (.L 1 (.a (.a (.a (.v 1) (.m 65536 (.v 2))) (.m 524288 (.v 2))) (.i 1)) (.v 3) (.L 1 (.s (.v 0) (.v 1)) (.m (262144 + 262144) (.v 2)) (.L 1 (.s (.v 3) (.v 4)) (.v 5) (.L 1 (.v 5) (.m 65536 (.v 2)) (.L 1 (.v 4) (.v 0) .n))))) (by kernel_rfl) u9 w1 c2 dd q))
      exact Int.not_lt.mp (fun u9 => lin [] [_, _] (.L 1152921504606846976 (.a (.v 1) (.i 1)) (.v 0) (.L 1 (.r (.v 0) 1152921504606846976) (.a (.a (.r (.v 1) 1152921504606846976) (.i 65536)) (.i 524288)) .n)) (by kernel_rfl) u9 this)
    by_cases b2 : val (vM z) < val 4602678819172646912
    · rw [if_pos (decide_eq_true b2)]
      have q := lt_of _ b2
      rw [hh3] at q
      have hle : T' ≤ 3 * D := by
        have := drop (T' * 1152921504606846976) (3 * D * 1152921504606846976 + 524288) (by rw [Int.add_mul]; exact Int.not_lt.mp (fun u9 => lin [] [_, _, _, _] (.L 1 (.a (.a (.v 3) (.m 524288 (.v 2))) (.i 1)) (.v 0) (.L 1 (.s (.v 0) (.v 1)) (.m (262144 + 262144) (.v 2)) (.L 1 (.a (.v 1) (.i 1)) (.v 3) .n))) (by kernel_rfl) u9 w2 q))
        exact Int.not_lt.mp (fun u9 => lin [] [_, _] (.L 1152921504606846976 (.a (.m 3 (.v 1)) (.i 1)) (.v 0) (.L 1 (.r (.v 0) 1152921504606846976) (.a (.r (.m 3 (.v 1)) 1152921504606846976) (.i 524288)) .n)) (by kernel_rfl) u9 this)
      have hf : fT D T' = D := by unfold fT; split <;> (try split) <;> (first | exact linz [] [_] (.v 0) (.v 0) .n (by kernel_rfl) | (rename_i w0; exact Int.le_antisymm (Int.not_lt.mp (fun u9 => lin [] [_, _] (.L 1 (.a (.v 0) (.i 1)) (.v 1) (.L 1 (.v 1) (.v 0) .n)) (by kernel_rfl) u9 w0)) (Int.not_lt.mp (fun u9 => lin [] [_, _] (.L 1 (.a (.v 1) (.i 1)) (.v 0) (.L 1 (.v 0) (.v 1) .n)) (by kernel_rfl) u9 hge))))
      rw [hf]
      have := lamp_of (n := (m + D).toNat) (by decide) hy (by exact Or.elim (Int.le_total 0 (m + D)) (fun q0 => Nat.not_lt.mp (fun u9 => lin [_] [_, _] (.l 1 (.a (.c 16) (.c 1)) (.v 0) (.L 1 (.a (.v 0) (.v 1)) (.i 16) (.E 1 (.z (.v 0)) (.a (.v 0) (.v 1)) .n))) (by kernel_rfl) u9 h2 (Int.toNat_of_nonneg (Int.not_lt.mp (fun u9 => lin [] [_, _] (.L 1 (.a (.a (.v 0) (.v 1)) (.i 1)) (.i 0) (.L 1 (.i 0) (.a (.v 0) (.v 1)) .n)) (by kernel_rfl) u9 q0))))) (fun q0 => Nat.not_lt.mp (fun u9 => lin [_] [] (.l 1 (.a (.c 16) (.c 1)) (.v 0) (.e 1 (.v 0) (.c 0) .n)) (by kernel_rfl) u9 (Int.toNat_of_nonpos (Int.not_lt.mp (fun u9 => lin [] [_, _] (.L 1 (.a (.i 0) (.i 1)) (.a (.v 0) (.v 1)) (.L 1 (.a (.v 0) (.v 1)) (.i 0) .n)) (by kernel_rfl) u9 q0)))))) (by exact Int.not_lt.mp (fun u9 => lin [_] [_, _] (.L 1 (.a (.a (.r (.m 4 (.z (.v 0))) (16 * 1152921504606846976)) (.i (16 * 1152921504606846976))) (.i 1)) (.m 64 (.a (.r (.a (.v 1) (.v 0)) 1152921504606846976) (.i 65536))) (.E (-73786976294838206464) (.z (.v 0)) (.a (.v 1) (.v 0)) .n)) (by kernel_rfl) u9 (Int.toNat_of_nonneg (Int.not_lt.mp (fun u9 => lin [] [_, _] (.L 1 (.a (.a (.v 1) (.v 0)) (.i 1)) (.i 0) (.L 1 (.i 1) (.v 0) (.L 1 (.i 0) (.v 1) .n))) (by kernel_rfl) u9 hD hm))))) (by exact Int.not_lt.mp (fun u9 => lin [_] [_, _] (.L 1 (.a (.a (.m 64 (.s (.r (.a (.v 1) (.v 0)) 1152921504606846976) (.i 65536))) (.i (16 * 1152921504606846976))) (.i 1)) (.r (.m 4 (.z (.v 0))) (16 * 1152921504606846976)) (.E 73786976294838206464 (.z (.v 0)) (.a (.v 1) (.v 0)) .n)) (by kernel_rfl) u9 (Int.toNat_of_nonneg (Int.not_lt.mp (fun u9 => lin [] [_, _] (.L 1 (.a (.a (.v 1) (.v 0)) (.i 1)) (.i 0) (.L 1 (.i 1) (.v 0) (.L 1 (.i 0) (.v 1) .n))) (by kernel_rfl) u9 hD hm)))))
      rw [show (((m + D).toNat : Nat) : Int) = m + D by exact linz [_] [_, _] (.z (.v 0)) (.a (.v 1) (.v 0)) (.E (-1) (.z (.v 0)) (.a (.v 1) (.v 0)) .n) (by kernel_rfl) (Int.toNat_of_nonneg (Int.not_lt.mp (fun u9 => lin [] [_, _] (.L 1 (.a (.a (.v 1) (.v 0)) (.i 1)) (.i 0) (.L 1 (.i 1) (.v 0) (.L 1 (.i 0) (.v 1) .n))) (by kernel_rfl) u9 hD hm)))] at this
      exact this
    · rw [if_neg (by rw [decide_eq_true_eq]; exact b2)]
      have q := ge_of _ b2
      rw [hh3] at q
      have hge3 : 3 * D ≤ T' := by
        have := drop (3 * D * 1152921504606846976) (T' * 1152921504606846976 + 524288) (by rw [Int.add_mul]; exact Int.not_lt.mp (fun u9 => lin [] [_, _, _, _] (.L 1 (.a (.a (.v 1) (.m 524288 (.v 2))) (.i 1)) (.v 3) (.L 1 (.s (.v 0) (.v 1)) (.m (262144 + 262144) (.v 2)) (.L 1 (.v 3) (.v 0) .n))) (by kernel_rfl) u9 w1 q))
        exact Int.not_lt.mp (fun u9 => lin [] [_, _] (.L 1152921504606846976 (.a (.v 1) (.i 1)) (.m 3 (.v 0)) (.L 1 (.r (.m 3 (.v 0)) 1152921504606846976) (.a (.r (.v 1) 1152921504606846976) (.i 524288)) .n)) (by kernel_rfl) u9 this)
      by_cases b3 : val (vM z) < val 4604180019048437077
      · rw [if_pos (decide_eq_true b3)]
        have q := lt_of _ b3
        have hle : T' ≤ 4 * D := by
          have := drop (T' * 1152921504606846976) (4 * D * 1152921504606846976 + 65536 + 524288) (by
            rw [Int.add_mul, Int.add_mul]
            rw [show 4 * 1152921504606846976 * PP * D = 4 * D * 1152921504606846976 * PP by ac_rfl] at c3
            exact Int.not_lt.mp (fun u9 => lin [] [_, _, _, _, _, _] (.L 1 (.a (.a (.a (.v 4) (.m 65536 (.v 2))) (.m 524288 (.v 2))) (.i 1)) (.v 0) (.L 1 (.s (.v 0) (.v 1)) (.m (262144 + 262144) (.v 2)) (.L 1 (.s (.v 3) (.v 4)) (.v 5) (.L 1 (.v 5) (.m 65536 (.v 2)) (.L 1 (.a (.v 1) (.i 1)) (.v 3) .n))))) (by kernel_rfl) u9 w2 c3 dd q))
          exact Int.not_lt.mp (fun u9 => lin [] [_, _] (.L 1152921504606846976 (.a (.m 4 (.v 1)) (.i 1)) (.v 0) (.L 1 (.r (.v 0) 1152921504606846976) (.a (.a (.r (.m 4 (.v 1)) 1152921504606846976) (.i 65536)) (.i 524288)) .n)) (by kernel_rfl) u9 this)
        have hf : fT D T' = 4 * D - T' := by unfold fT; split <;> (try split) <;> (try split) <;> (first | exact linz [] [_, _] (.s (.m 4 (.v 0)) (.v 1)) (.s (.m 4 (.v 0)) (.v 1)) .n (by kernel_rfl) | (rename_i w0; exact Int.le_antisymm (Int.not_lt.mp (fun u9 => lin [] [_, _] (.L 0 (.a (.s (.m 4 (.v 0)) (.v 1)) (.i 1)) (.v 1) (.L 2 (.i 1) (.v 0) (.L 1 (.m 3 (.v 0)) (.v 1) (.L 1 (.v 1) (.v 0) .n)))) (by kernel_rfl) u9 hD hge3 w0)) (Int.not_lt.mp (fun u9 => lin [] [_, _] (.L 1 (.a (.v 1) (.i 1)) (.s (.m 4 (.v 0)) (.v 1)) (.L 4 (.v 0) (.v 1) (.L 1 (.m 3 (.v 0)) (.v 1) (.L 3 (.v 1) (.v 0) .n)))) (by kernel_rfl) u9 hge hge3 w0))) | (rename_i w0; exact Int.le_antisymm (Int.not_lt.mp (fun u9 => lin [] [_, _] (.L 1 (.a (.s (.m 4 (.v 0)) (.v 1)) (.i 1)) (.v 0) (.L 1 (.v 1) (.m 3 (.v 0)) .n)) (by kernel_rfl) u9 w0)) (Int.not_lt.mp (fun u9 => lin [] [_, _] (.L 1 (.a (.v 0) (.i 1)) (.s (.m 4 (.v 0)) (.v 1)) (.L 1 (.m 3 (.v 0)) (.v 1) .n)) (by kernel_rfl) u9 hge3))))
        rw [hf]
        have k2 := ap_scale D (by exact Int.not_lt.mp (fun u9 => lin [] [_] (.L 1 (.a (.v 0) (.i 1)) (.i 0) (.L 1 (.i 1) (.v 0) .n)) (by kernel_rfl) u9 hD)) k_23
        have k3 := ap_to (S' := 1125899906842624 * (D * 6144)) (v' := 4 * D * 1152921504606846976) (e' := 65536) k2 (by exact linz [] [_] (.m (6 * 1152921504606846976) (.v 0)) (.m 1125899906842624 (.r (.v 0) 6144)) .n (by kernel_rfl)) (by exact linz [] [_] (.m (4 * 1152921504606846976) (.v 0)) (.r (.m 4 (.v 0)) 1152921504606846976) .n (by kernel_rfl)) (by exact Int.not_lt.mp (fun u9 => lin [] [_, _] (.L 1 (.a (.i 65536) (.i 1)) (.m 256 (.v 1)) (.L 256 (.i 0) (.v 0) (.L 256 (.a (.v 0) (.v 1)) (.i 16) .n))) (by kernel_rfl) u9 hm h2))
        have k4 := ap_to (S' := 1125899906842624 * (D * 6144)) (v' := T' * 1152921504606846976) (e' := 524288) hw (by exact linz [] [_] (.r (.m 6 (.v 0)) 1152921504606846976) (.m 1125899906842624 (.r (.v 0) 6144)) .n (by kernel_rfl)) rfl (by decide)
        have k5 := ap_sub k3 k4 (by exact Int.not_le.mp (fun u9 => lin [] [_] (.L 1 (.r (.v 0) 6144) (.i 0) (.L 6144 (.i 1) (.v 0) .n)) (by kernel_rfl) u9 hD)) (by exact Int.not_lt.mp (fun u9 => lin [] [_, _] (.L 1 (.a (.m 7 (.m 1125899906842624 (.r (.v 0) 6144))) (.i 1)) (.a (.s (.r (.m 4 (.v 0)) 1152921504606846976) (.r (.v 1) 1152921504606846976)) (.i (65536 + 524288))) (.L 47269781688880726016 (.i 1) (.v 0) (.L 1152921504606846976 (.m 3 (.v 0)) (.v 1) .n))) (by kernel_rfl) u9 hD hge3)) (by exact Int.not_lt.mp (fun u9 => lin [] [_, _] (.L 1 (.a (.m 7 (.m 1125899906842624 (.r (.v 0) 6144))) (.i 1)) (.a (.g (.s (.r (.m 4 (.v 0)) 1152921504606846976) (.r (.v 1) 1152921504606846976))) (.i (65536 + 524288))) (.L 48422703193487572992 (.i 1) (.v 0) (.L 1152921504606846976 (.v 1) (.m 4 (.v 0)) .n))) (by kernel_rfl) u9 hD hle))
        have k6 := ap_to (S' := 6 * D * 1152921504606846976) (v' := (4 * D - T') * 1152921504606846976) (e' := 700000) k5 (by exact linz [] [_] (.m 1125899906842624 (.r (.v 0) 6144)) (.r (.m 6 (.v 0)) 1152921504606846976) .n (by kernel_rfl)) (by exact linz [] [_, _] (.s (.r (.m 4 (.v 0)) 1152921504606846976) (.r (.v 1) 1152921504606846976)) (.r (.s (.m 4 (.v 0)) (.v 1)) 1152921504606846976) .n (by kernel_rfl)) (by exact Int.not_lt.mp (fun u9 => lin [] [_, _] (.L 1 (.a (.i 700000) (.i 1)) (.a (.i (65536 + 524288)) (.r (.v 1) 6144)) (.L 6144 (.i 0) (.v 0) (.L 6144 (.a (.v 0) (.v 1)) (.i 16) .n))) (by kernel_rfl) u9 hm h2))
        exact ramp hc k6 hx hD (by exact Int.not_lt.mp (fun u9 => lin [] [_, _] (.L 1 (.a (.s (.m 4 (.v 1)) (.v 0)) (.i 1)) (.i 0) (.L 1 (.v 0) (.m 4 (.v 1)) .n)) (by kernel_rfl) u9 hle)) (by exact Int.not_lt.mp (fun u9 => lin [] [_, _] (.L 1 (.a (.v 0) (.i 1)) (.s (.m 4 (.v 0)) (.v 1)) (.L 1 (.m 3 (.v 0)) (.v 1) .n)) (by kernel_rfl) u9 hge3)) hm h2
      · rw [if_neg (by rw [decide_eq_true_eq]; exact b3)]
        have q := ge_of _ b3
        have hge4 : 4 * D ≤ T' := by
          have := drop (4 * D * 1152921504606846976) (T' * 1152921504606846976 + 65536 + 524288) (by
            rw [Int.add_mul, Int.add_mul]
            rw [show 4 * 1152921504606846976 * PP * D = 4 * D * 1152921504606846976 * PP by ac_rfl] at c4
            exact Int.not_lt.mp (fun u9 => lin [] [_, _, _, _, _, _] (.L 1 (.a (.a (.a (.v 1) (.m 65536 (.v 2))) (.m 524288 (.v 2))) (.i 1)) (.v 3) (.L 1 (.s (.v 0) (.v 1)) (.m (262144 + 262144) (.v 2)) (.L 1 (.s (.v 3) (.v 4)) (.v 5) (.L 1 (.v 5) (.m 65536 (.v 2)) (.L 1 (.v 4) (.v 0) .n))))) (by kernel_rfl) u9 w1 c4 dd q))
          exact Int.not_lt.mp (fun u9 => lin [] [_, _] (.L 1152921504606846976 (.a (.v 1) (.i 1)) (.m 4 (.v 0)) (.L 1 (.r (.m 4 (.v 0)) 1152921504606846976) (.a (.a (.r (.v 1) 1152921504606846976) (.i 65536)) (.i 524288)) .n)) (by kernel_rfl) u9 this)
        have hf : fT D T' = 0 := by unfold fT; split <;> (try split) <;> (try split) <;> (first | exact linz [] [] (.i 0) (.i 0) .n (by kernel_rfl) | (rename_i w0; exact Int.le_antisymm (Int.not_lt.mp (fun u9 => lin [] [_, _] (.L 0 (.a (.i 0) (.i 1)) (.v 1) (.L 2 (.i 1) (.v 0) (.L 1 (.m 3 (.v 0)) (.v 1) (.L 1 (.v 1) (.v 0) .n)))) (by kernel_rfl) u9 hD hge3 w0)) (Int.not_lt.mp (fun u9 => lin [] [_] (.L 1 (.a (.v 0) (.i 1)) (.i 0) (.L 1 (.i 0) (.v 0) .n)) (by kernel_rfl) u9 hT'.1))) | (rename_i w0; exact Int.le_antisymm (Int.not_lt.mp (fun u9 => lin [] [_, _] (.L 1 (.a (.i 0) (.i 1)) (.s (.m 4 (.v 0)) (.v 1)) (.L 1 (.m 4 (.v 0)) (.v 1) .n)) (by kernel_rfl) u9 hge4)) (Int.not_lt.mp (fun u9 => lin [] [_, _] (.L 1 (.a (.s (.m 4 (.v 0)) (.v 1)) (.i 1)) (.i 0) (.L 1 (.v 1) (.m 4 (.v 0)) .n)) (by kernel_rfl) u9 w0))) | (rename_i w0; exact Int.le_antisymm (Int.not_lt.mp (fun u9 => lin [] [_, _] (.L 1 (.a (.i 0) (.i 1)) (.v 0) (.L 1 (.m 4 (.v 0)) (.v 1) (.L 1 (.v 1) (.m 3 (.v 0)) .n))) (by kernel_rfl) u9 hge4 w0)) (Int.not_lt.mp (fun u9 => lin [] [_, _] (.L 0 (.a (.v 0) (.i 1)) (.i 0) (.L 1 (.i 1) (.v 0) (.L 1 (.m 4 (.v 0)) (.v 1) (.L 1 (.v 1) (.m 3 (.v 0)) .n)))) (by kernel_rfl) u9 hD hge4 w0))))
        rw [hf, Int.add_zero]
        have := lamp_of (n := m.toNat) (by decide) hx (by exact Or.elim (Int.le_total 0 (m)) (fun q0 => Nat.not_lt.mp (fun u9 => lin [_] [_, _] (.l 1 (.a (.c 16) (.c 1)) (.v 0) (.L 1 (.i 1) (.v 0) (.L 1 (.a (.v 1) (.v 0)) (.i 16) (.E 1 (.z (.v 0)) (.v 1) .n)))) (by kernel_rfl) u9 hD h2 (Int.toNat_of_nonneg (Int.not_lt.mp (fun u9 => lin [] [_] (.L 1 (.a (.v 0) (.i 1)) (.i 0) (.L 1 (.i 0) (.v 0) .n)) (by kernel_rfl) u9 q0))))) (fun q0 => Nat.not_lt.mp (fun u9 => lin [_] [] (.l 1 (.a (.c 16) (.c 1)) (.v 0) (.e 1 (.v 0) (.c 0) .n)) (by kernel_rfl) u9 (Int.toNat_of_nonpos (Int.not_lt.mp (fun u9 => lin [] [_] (.L 1 (.a (.i 0) (.i 1)) (.v 0) (.L 1 (.v 0) (.i 0) .n)) (by kernel_rfl) u9 q0)))))) (by exact Int.not_lt.mp (fun u9 => lin [_] [_] (.L 1 (.a (.a (.r (.m 4 (.z (.v 0))) (16 * 1152921504606846976)) (.i (16 * 1152921504606846976))) (.i 1)) (.m 64 (.a (.r (.v 0) 1152921504606846976) (.i 65536))) (.E (-73786976294838206464) (.z (.v 0)) (.v 0) .n)) (by kernel_rfl) u9 (Int.toNat_of_nonneg (Int.not_lt.mp (fun u9 => lin [] [_] (.L 1 (.a (.v 0) (.i 1)) (.i 0) (.L 1 (.i 0) (.v 0) .n)) (by kernel_rfl) u9 hm))))) (by exact Int.not_lt.mp (fun u9 => lin [_] [_] (.L 1 (.a (.a (.m 64 (.s (.r (.v 0) 1152921504606846976) (.i 65536))) (.i (16 * 1152921504606846976))) (.i 1)) (.r (.m 4 (.z (.v 0))) (16 * 1152921504606846976)) (.E 73786976294838206464 (.z (.v 0)) (.v 0) .n)) (by kernel_rfl) u9 (Int.toNat_of_nonneg (Int.not_lt.mp (fun u9 => lin [] [_] (.L 1 (.a (.v 0) (.i 1)) (.i 0) (.L 1 (.i 0) (.v 0) .n)) (by kernel_rfl) u9 hm)))))
        rw [show ((m.toNat : Nat) : Int) = m by exact linz [_] [_] (.z (.v 0)) (.v 0) (.E (-1) (.z (.v 0)) (.v 0) .n) (by kernel_rfl) (Int.toNat_of_nonneg (Int.not_lt.mp (fun u9 => lin [] [_] (.L 1 (.a (.v 0) (.i 1)) (.i 0) (.L 1 (.i 0) (.v 0) .n)) (by kernel_rfl) u9 hm)))] at this
        exact this
end
section
open PySem.Float64
theorem near_ap {x : UInt64} {n : Nat} (h : nearM x n = true) : Ap (16 * 1152921504606846976) x ((n : Int) * 1152921504606846976) 65536 := by
  unfold nearM at h
  rw [Bool.and_eq_true] at h
  have h2 := Nat.le_of_ble_eq_true h.2
  have := ap_from (c := 16) (K := 1152921504606846976) rfl (fn_of h.1) h2
  exact ap_to this rfl rfl (Int.le_refl _)
theorem k_t : Ap (6 * 1152921504606846976) 4599676419421066581 (2 * 1152921504606846976) 256 := const_ap (n := 2) (by decide +kernel) (by decide +kernel)
theorem k_t1 : Ap (6 * 1152921504606846976) (Float64.mul (Float64.ofInt 1) 4599676419421066581) (2 * 1152921504606846976) 256 := const_ap (n := 2) (by decide +kernel) (by decide +kernel)
theorem k_t2 : Ap (6 * 1152921504606846976) (Float64.mul (Float64.ofInt 2) 4599676419421066581) (4 * 1152921504606846976) 256 := const_ap (n := 4) (by decide +kernel) (by decide +kernel)
/-- the part that lies c thirds on -/
noncomputable def partAt (x y z c : Nat) : Nat := if c = 1 then x else if c = 2 then z else y
noncomputable def fTn (D T : Nat) : Nat := if T ≤ D then T else if T ≤ 3 * D then D else if T ≤ 4 * D then 4 * D - T else 0
noncomputable def chkHue (x y z : Nat) : Bool :=
  Nat.ble (mxN x y z) (mnN x y z) || ((mnN x y z + fTn (mxN x y z - mnN x y z) (hueN x y z) == y) && ((mnN x y z + fTn (mxN x y z - mnN x y z) ((hueN x y z + 2 * (mxN x y z - mnN x y z)) % (6 * (mxN x y z - mnN x y z))) == x) &&
    (mnN x y z + fTn (mxN x y z - mnN x y z) ((hueN x y z + 4 * (mxN x y z - mnN x y z)) % (6 * (mxN x y z - mnN x y z))) == z)))
theorem all_hues : ((List.range 17).all fun x => (List.range 17).all fun y => (List.range 17).all fun z => chkHue x y z) = true := by decide +kernel
theorem fT_nat (D T : Nat) : fT (D : Int) (T : Int) = (fTn D T : Int) := by
  unfold fT fTn
  by_cases h1 : T ≤ D
  · rw [if_pos h1, if_pos (show (T : Int) ≤ (D : Int) by exact Int.not_lt.mp (fun u9 => lin [_, _] [] (.L 1 (.a (.z (.v 1)) (.i 1)) (.z (.v 0)) (.l 1 (.v 0) (.v 1) .n)) (by kernel_rfl) u9 h1))]
  · rw [if_neg h1, if_neg (show ¬ (T : Int) ≤ (D : Int) by exact fun u9 => lin [_, _] [] (.L 1 (.z (.v 1)) (.z (.v 0)) (.l 1 (.a (.v 0) (.c 1)) (.v 1) .n)) (by kernel_rfl) u9 (Nat.not_le.mp h1))]
    by_cases h2 : T ≤ 3 * D
    · rw [if_pos h2, if_pos (show (T : Int) ≤ 3 * (D : Int) by exact Int.not_lt.mp (fun u9 => lin [_, _] [] (.L 1 (.a (.m 3 (.z (.v 1))) (.i 1)) (.z (.v 0)) (.l 1 (.v 0) (.m 3 (.v 1)) .n)) (by kernel_rfl) u9 h2))]
    · rw [if_neg h2, if_neg (show ¬ (T : Int) ≤ 3 * (D : Int) by exact fun u9 => lin [_, _] [] (.L 1 (.z (.v 1)) (.m 3 (.z (.v 0))) (.l 1 (.a (.m 3 (.v 0)) (.c 1)) (.v 1) .n)) (by kernel_rfl) u9 (Nat.not_le.mp h2))]
      by_cases h3 : T ≤ 4 * D
      · rw [if_pos h3, if_pos (show (T : Int) ≤ 4 * (D : Int) by exact Int.not_lt.mp (fun u9 => lin [_, _] [] (.L 1 (.a (.m 4 (.z (.v 1))) (.i 1)) (.z (.v 0)) (.l 1 (.v 0) (.m 4 (.v 1)) .n)) (by kernel_rfl) u9 h3))]; exact linz [_, _, _] [] (.s (.m 4 (.z (.v 1))) (.z (.v 0))) (.z (.v 2)) (.e 1 (.a (.v 2) (.v 0)) (.m 4 (.v 1)) .n) (by kernel_rfl) (Nat.sub_add_cancel (Nat.not_lt.mp (fun u9 => lin [_, _] [] (.l 1 (.a (.m 4 (.v 1)) (.c 1)) (.v 0) (.l 1 (.v 0) (.m 4 (.v 1)) .n)) (by kernel_rfl) u9 h3)))
      · rw [if_neg h3, if_neg (show ¬ (T : Int) ≤ 4 * (D : Int) by exact fun u9 => lin [_, _] [] (.L 1 (.z (.v 1)) (.m 4 (.z (.v 0))) (.l 1 (.a (.m 4 (.v 0)) (.c 1)) (.v 1) .n)) (by kernel_rfl) u9 (Nat.not_le.mp h3))]; rfl
theorem hue_part {x y z c : Nat} (hx : x ≤ 16) (hy : y ≤ 16) (hz : z ≤ 16) (hD : mnN x y z < mxN x y z) (hc : c ≤ 3) : ∃ T j : Int, 0 ≤ T ∧ T < 6 * ((mxN x y z - mnN x y z : Nat) : Int) ∧
    (hueN x y z : Int) + 2 * ((mxN x y z - mnN x y z : Nat) : Int) * (c : Int) = T + 6 * ((mxN x y z - mnN x y z : Nat) : Int) * j ∧ (mnN x y z : Int) + fT ((mxN x y z - mnN x y z : Nat) : Int) T = (partAt x y z c : Nat) := by
  have hN := hueN_lt hD
  have h := all_range (all_range (all_range all_hues (i := x) (by exact Nat.not_le.mp (fun u9 => lin [_] [] (.l 1 (.c 17) (.v 0) (.l 1 (.v 0) (.c 16) .n)) (by kernel_rfl) u9 hx))) (i := y) (by exact Nat.not_le.mp (fun u9 => lin [_] [] (.l 1 (.c 17) (.v 0) (.l 1 (.v 0) (.c 16) .n)) (by kernel_rfl) u9 hy))) (i := z) (by exact Nat.not_le.mp (fun u9 => lin [_] [] (.l 1 (.c 17) (.v 0) (.l 1 (.v 0) (.c 16) .n)) (by kernel_rfl) u9 hz))
  unfold chkHue at h
  rw [Bool.or_eq_true, Bool.and_eq_true, Bool.and_eq_true, beq_iff_eq, beq_iff_eq, beq_iff_eq] at h
  rcases h with h | ⟨h0, h1, h2⟩
  · exact absurd (Nat.le_of_ble_eq_true h) (by lia)
  generalize mxN x y z - mnN x y z = D at *
  generalize hueN x y z = N at *
  clear hD hx hy hz
  have q : ∀ n : Nat, (n : Int) = ((n % (6 * D) : Nat) : Int) + 6 * (D : Int) * ((n / (6 * D) : Nat) : Int) := fun n => by
    have := Nat.mod_add_div n (6 * D)
    exact_mod_cast this.symm
  have l : ∀ n : Nat, n % (6 * D) < 6 * D := fun n => Nat.mod_lt _ (by exact Nat.not_le.mp (fun u9 => lin [_, _] [] (.l 1 (.m 6 (.v 1)) (.c 0) (.l 1 (.a (.v 0) (.c 1)) (.m 6 (.v 1)) .n)) (by kernel_rfl) u9 hN))
  have hc' : c = 0 ∨ c = 1 ∨ c = 2 ∨ c = 3 := by lia
  rcases hc' with rfl | rfl | rfl | rfl
  · exact ⟨N, 0, by exact Int.not_lt.mp (fun u9 => lin [_] [] (.L 1 (.a (.z (.v 0)) (.i 1)) (.i 0) .n) (by kernel_rfl) u9), by exact Int.not_le.mp (fun u9 => lin [_, _] [] (.L 1 (.m 6 (.z (.v 1))) (.z (.v 0)) (.l 1 (.a (.v 0) (.c 1)) (.m 6 (.v 1)) .n)) (by kernel_rfl) u9 hN), by exact linz [_, _] [] (.a (.z (.v 0)) (.r (.m 2 (.z (.v 1))) ((0 : Nat) : Int))) (.a (.z (.v 0)) (.r (.m 6 (.z (.v 1))) 0)) .n (by kernel_rfl), by rw [fT_nat]; exact_mod_cast h0⟩
  · exact ⟨_, _, Int.natCast_nonneg _, Int.ofNat_lt.mpr (l (N + 2 * D)), by rw [← q]; exact linz [_, _] [] (.a (.z (.v 0)) (.r (.m 2 (.z (.v 1))) ((1 : Nat) : Int))) (.z (.a (.v 0) (.m 2 (.v 1)))) .n (by kernel_rfl), by rw [fT_nat]; exact_mod_cast h1⟩
  · exact ⟨_, _, Int.natCast_nonneg _, Int.ofNat_lt.mpr (l (N + 4 * D)), by rw [← q]; exact linz [_, _] [] (.a (.z (.v 0)) (.r (.m 2 (.z (.v 1))) ((2 : Nat) : Int))) (.z (.a (.v 0) (.m 4 (.v 1)))) .n (by kernel_rfl), by rw [fT_nat]; exact_mod_cast h2⟩
  · exact ⟨N, 1, by exact Int.not_lt.mp (fun u9 => lin [_] [] (.L 1 (.a (.z (.v 0)) (.i 1)) (.i 0) .n) (by kernel_rfl) u9), by exact Int.not_le.mp (fun u9 => lin [_, _] [] (.L 1 (.m 6 (.z (.v 1))) (.z (.v 0)) (.l 1 (.a (.v 0) (.c 1)) (.m 6 (.v 1)) .n)) (by kernel_rfl) u9 hN), by exact linz [_, _] [] (.a (.z (.v 0)) (.r (.m 2 (.z (.v 1))) ((3 : Nat) : Int))) (.a (.z (.v 0)) (.r (.m 6 (.z (.v 1))) 1)) .n (by kernel_rfl), by rw [fT_nat]; exact_mod_cast h0⟩
theorem row_M {x y z : Nat} (hx : x ≤ 16) (hy : y ≤ 16) (hz : z ≤ 16) (hD : mnN x y z < mxN x y z) : okM (mxN x y z) (mnN x y z) = true := by
  have hM : mxN x y z ≤ 16 := by unfold mxN; exact Or.elim (Nat.le_total (x) (max y z)) (fun q0 => Or.elim (Nat.le_total (y) (z)) (fun q1 => Nat.not_lt.mp (fun u9 => lin [_, _, _] [] (.l 1 (.a (.c 16) (.c 1)) (.v 2) (.l 1 (.v 0) (.c 16) (.e 1 (.v 1) (.v 0) (.e 1 (.v 2) (.v 1) .n)))) (by kernel_rfl) u9 hz (Nat.max_eq_right (Nat.not_lt.mp (fun u9 => lin [_, _] [] (.l 1 (.a (.v 1) (.c 1)) (.v 0) (.l 1 (.v 0) (.v 1) .n)) (by kernel_rfl) u9 q1))) (Nat.max_eq_right (Nat.not_lt.mp (fun u9 => lin [_, _] [] (.l 1 (.a (.v 1) (.c 1)) (.v 0) (.l 1 (.v 0) (.v 1) .n)) (by kernel_rfl) u9 q0))))) (fun q1 => Nat.not_lt.mp (fun u9 => lin [_, _, _] [] (.l 1 (.a (.c 16) (.c 1)) (.v 2) (.l 1 (.v 0) (.c 16) (.e 1 (.v 1) (.v 0) (.e 1 (.v 2) (.v 1) .n)))) (by kernel_rfl) u9 hy (Nat.max_eq_left (Nat.not_lt.mp (fun u9 => lin [_, _] [] (.l 1 (.a (.v 0) (.c 1)) (.v 1) (.l 1 (.v 1) (.v 0) .n)) (by kernel_rfl) u9 q1))) (Nat.max_eq_right (Nat.not_lt.mp (fun u9 => lin [_, _] [] (.l 1 (.a (.v 1) (.c 1)) (.v 0) (.l 1 (.v 0) (.v 1) .n)) (by kernel_rfl) u9 q0)))))) (fun q0 => Nat.not_lt.mp (fun u9 => lin [_, _] [] (.l 1 (.a (.c 16) (.c 1)) (.v 1) (.l 1 (.v 0) (.c 16) (.e 1 (.v 1) (.v 0) .n))) (by kernel_rfl) u9 hx (Nat.max_eq_left (Nat.not_lt.mp (fun u9 => lin [_, _] [] (.l 1 (.a (.v 0) (.c 1)) (.v 1) (.l 1 (.v 1) (.v 0) .n)) (by kernel_rfl) u9 q0)))))
  have h := all_range (all_range rowM (i := mxN x y z - 1) (by exact Or.elim (Nat.le_total (mxN x y z) (1)) (fun q0 => Nat.not_le.mp (fun u9 => lin [_] [] (.l 1 (.c 16) (.v 0) (.e 1 (.v 0) (.c 0) .n)) (by kernel_rfl) u9 (Nat.sub_eq_zero_of_le (Nat.not_lt.mp (fun u9 => lin [_] [] (.l 1 (.a (.c 1) (.c 1)) (.v 0) (.l 1 (.v 0) (.c 1) .n)) (by kernel_rfl) u9 q0))))) (fun q0 => Nat.not_le.mp (fun u9 => lin [_, _] [] (.l 1 (.c 16) (.v 1) (.l 1 (.v 0) (.c 16) (.e 1 (.a (.v 1) (.c 1)) (.v 0) .n))) (by kernel_rfl) u9 hM (Nat.sub_add_cancel (Nat.not_lt.mp (fun u9 => lin [_] [] (.l 1 (.a (.v 0) (.c 1)) (.c 1) (.l 1 (.c 1) (.v 0) .n)) (by kernel_rfl) u9 q0))))))) (i := mnN x y z) (by exact Nat.not_le.mp (fun u9 => lin [_, _, _] [] (.l 1 (.a (.v 2) (.c 1)) (.v 0) (.l 1 (.a (.v 0) (.c 1)) (.v 1) (.e (-1) (.a (.v 2) (.c 1)) (.v 1) .n))) (by kernel_rfl) u9 hD (Nat.sub_add_cancel (Nat.not_lt.mp (fun u9 => lin [_, _] [] (.l 1 (.a (.v 1) (.c 1)) (.c 1) (.l 1 (.a (.v 0) (.c 1)) (.v 1) .n)) (by kernel_rfl) u9 hD)))))
  rw [show mxN x y z - 1 + 1 = mxN x y z by exact linn [_, _] [] (.a (.v 1) (.c 1)) (.v 0) (.e (-1) (.a (.v 1) (.c 1)) (.v 0) .n) (by kernel_rfl) (Nat.sub_add_cancel (Nat.not_lt.mp (fun u9 => lin [_, _] [] (.l 1 (.a (.v 1) (.c 1)) (.c 1) (.l 1 (.a (.v 0) (.c 1)) (.v 1) .n)) (by kernel_rfl) u9 hD)))] at h
  exact h
theorem lum_d16 {x y z : Nat} (hx : x ≤ 16) (hy : y ≤ 16) (hz : z ≤ 16) : lumF (d16 (x : Int)) (d16 (y : Int)) (d16 (z : Int)) = lumG (d16 (mxN x y z : Int)) (d16 (mnN x y z : Int)) := by
  unfold lumF lumG
  rw [mx_d16 hx hy hz, mn_d16 hx hy hz]
  rfl
theorem sat_d16 {x y z : Nat} (hx : x ≤ 16) (hy : y ≤ 16) (hz : z ≤ 16) : satF (d16 (x : Int)) (d16 (y : Int)) (d16 (z : Int)) = satG (d16 (mxN x y z : Int)) (d16 (mnN x y z : Int)) := by
  unfold satF satG
  rw [lum_d16 hx hy hz, mx_d16 hx hy hz, mn_d16 hx hy hz]
  rfl
theorem okC_d16 {x y z : Nat} (hx : x ≤ 16) (hy : y ≤ 16) (hz : z ≤ 16) (hD : mnN x y z < mxN x y z) : OkC (d16 (x : Int)) (d16 (y : Int)) (d16 (z : Int)) ∧ OkS (satF (d16 (x : Int)) (d16 (y : Int)) (d16 (z : Int))) := by
  have h := row_M hx hy hz hD
  unfold okM at h
  simp only [Bool.and_eq_true, Bool.not_eq_true'] at h
  obtain ⟨_, _, h1, h2, h3, h4, h5, h6⟩ := h
  have e1 := mx_d16 hx hy hz
  have e2 := mn_d16 hx hy hz
  refine ⟨⟨?_, ?_, ?_, ?_, ?_⟩, ⟨?_⟩⟩
  · rw [e1]; exact h1
  · rw [e1, e2]; exact h2
  · rw [e1, e2]; exact h3
  · rw [e1, e2]; exact h4
  · rw [e1, e2]; exact h5
  · rw [sat_d16 hx hy hz]; exact h6
theorem tr_part {x y z c : Nat} {w : UInt64} (hx : x ≤ 16) (hy : y ≤ 16) (hz : z ≤ 16) (hD : mnN x y z < mxN x y z) (hc : c ≤ 3)
    (hw : Ap (6 * ((mxN x y z - mnN x y z : Nat) : Int) * 1152921504606846976) w (((hueN x y z : Int) + 2 * ((mxN x y z - mnN x y z : Nat) : Int) * (c : Int)) * 1152921504606846976) 262144) :
    OkF (vF (trM1 (x : Int) (y : Int) (z : Int)) (trM2 (x : Int) (y : Int) (z : Int)) w) ∧ lampI (vF (trM1 (x : Int) (y : Int) (z : Int)) (trM2 (x : Int) (y : Int) (z : Int)) w) = (partAt x y z c : Nat) := by
  have h := row_M hx hy hz hD
  unfold okM at h
  simp only [Bool.and_eq_true] at h
  have hM : mxN x y z ≤ 16 := by unfold mxN; exact Or.elim (Nat.le_total (x) (max y z)) (fun q0 => Or.elim (Nat.le_total (y) (z)) (fun q1 => Nat.not_lt.mp (fun u9 => lin [_, _, _] [] (.l 1 (.a (.c 16) (.c 1)) (.v 2) (.l 1 (.v 0) (.c 16) (.e 1 (.v 1) (.v 0) (.e 1 (.v 2) (.v 1) .n)))) (by kernel_rfl) u9 hz (Nat.max_eq_right (Nat.not_lt.mp (fun u9 => lin [_, _] [] (.l 1 (.a (.v 1) (.c 1)) (.v 0) (.l 1 (.v 0) (.v 1) .n)) (by kernel_rfl) u9 q1))) (Nat.max_eq_right (Nat.not_lt.mp (fun u9 => lin [_, _] [] (.l 1 (.a (.v 1) (.c 1)) (.v 0) (.l 1 (.v 0) (.v 1) .n)) (by kernel_rfl) u9 q0))))) (fun q1 => Nat.not_lt.mp (fun u9 => lin [_, _, _] [] (.l 1 (.a (.c 16) (.c 1)) (.v 2) (.l 1 (.v 0) (.c 16) (.e 1 (.v 1) (.v 0) (.e 1 (.v 2) (.v 1) .n)))) (by kernel_rfl) u9 hy (Nat.max_eq_left (Nat.not_lt.mp (fun u9 => lin [_, _] [] (.l 1 (.a (.v 0) (.c 1)) (.v 1) (.l 1 (.v 1) (.v 0) .n)) (by kernel_rfl) u9 q1))) (Nat.max_eq_right (Nat.not_lt.mp (fun u9 => lin [_, _] [] (.l 1 (.a (.v 1) (.c 1)) (.v 0) (.l 1 (.v 0) (.v 1) .n)) (by kernel_rfl) u9 q0)))))) (fun q0 => Nat.not_lt.mp (fun u9 => lin [_, _] [] (.l 1 (.a (.c 16) (.c 1)) (.v 1) (.l 1 (.v 0) (.c 16) (.e 1 (.v 1) (.v 0) .n))) (by kernel_rfl) u9 hx (Nat.max_eq_left (Nat.not_lt.mp (fun u9 => lin [_, _] [] (.l 1 (.a (.v 0) (.c 1)) (.v 1) (.l 1 (.v 1) (.v 0) .n)) (by kernel_rfl) u9 q0)))))
  obtain ⟨T, j, g1, g2, g3, g4⟩ := hue_part hx hy hz hD hc
  rw [g3] at hw
  have a := near_ap h.1
  have b := near_ap h.2.1
  unfold trM1 trM2
  rw [lum_d16 hx hy hz, sat_d16 hx hy hz, ← g4]
  refine vF_ap (j := j) a (ap_to b rfl ?_ (Int.le_refl _)) hw (by exact Int.not_lt.mp (fun u9 => lin [_] [_] (.L 6 (.a (.z (.v 0)) (.i 1)) (.i 1) (.L 1 (.i 0) (.v 0) (.L 1 (.a (.v 0) (.i 1)) (.m 6 (.z (.v 0))) .n))) (by kernel_rfl) u9 g1 g2)) (by exact Int.not_lt.mp (fun u9 => lin [_] [] (.L 1 (.a (.z (.v 0)) (.i 1)) (.i 0) .n) (by kernel_rfl) u9)) (by exact Int.not_lt.mp (fun u9 => lin [_, _, _] [] (.L 1 (.a (.i 16) (.i 1)) (.a (.z (.v 0)) (.z (.v 2))) (.l 1 (.v 1) (.c 16) (.e 1 (.a (.v 2) (.v 0)) (.v 1) .n))) (by kernel_rfl) u9 hM (Nat.sub_add_cancel (Nat.not_lt.mp (fun u9 => lin [_, _] [] (.l 1 (.a (.v 1) (.c 1)) (.v 0) (.l 1 (.a (.v 0) (.c 1)) (.v 1) .n)) (by kernel_rfl) u9 hD))))) g1 g2
  congr 1
  exact Or.elim (Nat.le_total (mxN x y z) (mnN x y z)) (fun q0 => linz [_, _, _] [] (.z (.v 1)) (.a (.z (.v 2)) (.z (.v 0))) (.e 1 (.a (.v 0) (.v 2)) (.v 1) .n) (by kernel_rfl) (Nat.sub_add_cancel (Nat.not_lt.mp (fun u9 => lin [_, _, _] [_] (.l 0 (.a (.v 1) (.c 1)) (.v 2) (.L 1 (.i 0) (.v 0) (.L 1 (.a (.v 0) (.i 1)) (.m 6 (.z (.v 0))) (.e 6 (.v 0) (.c 0) .n)))) (by kernel_rfl) u9 g1 g2 (Nat.sub_eq_zero_of_le (Nat.not_lt.mp (fun u9 => lin [_, _] [] (.l 1 (.a (.v 1) (.c 1)) (.v 0) (.l 1 (.v 0) (.v 1) .n)) (by kernel_rfl) u9 q0))))))) (fun q0 => linz [_, _, _] [] (.z (.v 2)) (.a (.z (.v 1)) (.z (.v 0))) (.e 1 (.a (.v 0) (.v 1)) (.v 2) .n) (by kernel_rfl) (Nat.sub_add_cancel (Nat.not_lt.mp (fun u9 => lin [_, _, _] [] (.l 1 (.a (.v 2) (.c 1)) (.v 1) (.e 1 (.a (.v 0) (.v 1)) (.v 2) .n)) (by kernel_rfl) u9 (Nat.sub_add_cancel (Nat.not_lt.mp (fun u9 => lin [_, _] [] (.l 1 (.a (.v 1) (.c 1)) (.v 0) (.l 1 (.v 0) (.v 1) .n)) (by kernel_rfl) u9 q0)))))))
theorem tr_ok {x y z th : Nat} (hx : x ≤ 16) (hy : y ≤ 16) (hz : z ≤ 16) (hD : mnN x y z < mxN x y z) (ht : th = 1 ∨ th = 2) :
    (OkF (trR (x : Int) (y : Int) (z : Int) (th : Int)) ∧ lampI (trR (x : Int) (y : Int) (z : Int) (th : Int)) = (partAt x y z (th + 1) : Nat)) ∧
    (OkF (trG (x : Int) (y : Int) (z : Int) (th : Int)) ∧ lampI (trG (x : Int) (y : Int) (z : Int) (th : Int)) = (partAt x y z th : Nat)) ∧
    (OkF (trB (x : Int) (y : Int) (z : Int) (th : Int)) ∧ lampI (trB (x : Int) (y : Int) (z : Int) (th : Int)) = (partAt x y z (th - 1) : Nat)) := by
  have hM : mxN x y z ≤ 16 := by unfold mxN; exact Or.elim (Nat.le_total (x) (max y z)) (fun q0 => Or.elim (Nat.le_total (y) (z)) (fun q1 => Nat.not_lt.mp (fun u9 => lin [_, _, _] [] (.l 1 (.a (.c 16) (.c 1)) (.v 2) (.l 1 (.v 0) (.c 16) (.e 1 (.v 1) (.v 0) (.e 1 (.v 2) (.v 1) .n)))) (by kernel_rfl) u9 hz (Nat.max_eq_right (Nat.not_lt.mp (fun u9 => lin [_, _] [] (.l 1 (.a (.v 1) (.c 1)) (.v 0) (.l 1 (.v 0) (.v 1) .n)) (by kernel_rfl) u9 q1))) (Nat.max_eq_right (Nat.not_lt.mp (fun u9 => lin [_, _] [] (.l 1 (.a (.v 1) (.c 1)) (.v 0) (.l 1 (.v 0) (.v 1) .n)) (by kernel_rfl) u9 q0))))) (fun q1 => Nat.not_lt.mp (fun u9 => lin [_, _, _] [] (.l 1 (.a (.c 16) (.c 1)) (.v 2) (.l 1 (.v 0) (.c 16) (.e 1 (.v 1) (.v 0) (.e 1 (.v 2) (.v 1) .n)))) (by kernel_rfl) u9 hy (Nat.max_eq_left (Nat.not_lt.mp (fun u9 => lin [_, _] [] (.l 1 (.a (.v 0) (.c 1)) (.v 1) (.l 1 (.v 1) (.v 0) .n)) (by kernel_rfl) u9 q1))) (Nat.max_eq_right (Nat.not_lt.mp (fun u9 => lin [_, _] [] (.l 1 (.a (.v 1) (.c 1)) (.v 0) (.l 1 (.v 0) (.v 1) .n)) (by kernel_rfl) u9 q0)))))) (fun q0 => Nat.not_lt.mp (fun u9 => lin [_, _] [] (.l 1 (.a (.c 16) (.c 1)) (.v 1) (.l 1 (.v 0) (.c 16) (.e 1 (.v 1) (.v 0) .n))) (by kernel_rfl) u9 hx (Nat.max_eq_left (Nat.not_lt.mp (fun u9 => lin [_, _] [] (.l 1 (.a (.v 0) (.c 1)) (.v 1) (.l 1 (.v 1) (.v 0) .n)) (by kernel_rfl) u9 q0)))))
  have hh := hue_ap hx hy hz hD
  have hN := hueN_lt hD
  have hth : Ap (6 * 1152921504606846976) (Float64.mul (Float64.ofInt (th : Int)) 4599676419421066581) (2 * (th : Int) * 1152921504606846976) 256 := by
    rcases ht with rfl | rfl
    · exact k_t1
    · exact k_t2
  have hb : ((mxN x y z - mnN x y z : Nat) : Int) ≤ 16 := by exact Int.not_lt.mp (fun u9 => lin [_, _] [] (.L 1 (.a (.i 16) (.i 1)) (.z (.v 1)) (.l 1 (.v 0) (.c 16) (.l 1 (.v 1) (.v 0) .n))) (by kernel_rfl) u9 hM (Nat.sub_le _ _))
  have hb1 : 1 ≤ ((mxN x y z - mnN x y z : Nat) : Int) := by exact Int.not_lt.mp (fun u9 => lin [_, _] [] (.L 6 (.a (.z (.v 1)) (.i 1)) (.i 1) (.l 1 (.a (.v 0) (.c 1)) (.m 6 (.v 1)) .n)) (by kernel_rfl) u9 hN)
  have hN' : (hueN x y z : Int) < 6 * ((mxN x y z - mnN x y z : Nat) : Int) := by exact Int.not_le.mp (fun u9 => lin [_, _] [] (.L 1 (.m 6 (.z (.v 1))) (.z (.v 0)) (.l 1 (.a (.v 0) (.c 1)) (.m 6 (.v 1)) .n)) (by kernel_rfl) u9 hN)
  have hN0 : 0 ≤ (hueN x y z : Int) := Int.natCast_nonneg _
  have pR := fun w => tr_part (w := w) (c := th + 1) hx hy hz hD (by exact Or.elim ht (fun q0 => Nat.not_lt.mp (fun u9 => lin [_] [] (.l 1 (.a (.c 3) (.c 1)) (.a (.v 0) (.c 1)) (.e 1 (.v 0) (.c 1) .n)) (by kernel_rfl) u9 q0)) (fun q0 => Nat.not_lt.mp (fun u9 => lin [_] [] (.l 1 (.a (.c 3) (.c 1)) (.a (.v 0) (.c 1)) (.e 1 (.v 0) (.c 2) .n)) (by kernel_rfl) u9 q0)))
  have pG := fun w => tr_part (w := w) (c := th) hx hy hz hD (by exact Or.elim ht (fun q0 => Nat.not_lt.mp (fun u9 => lin [_] [] (.l 1 (.a (.c 3) (.c 1)) (.v 0) (.e 1 (.v 0) (.c 1) .n)) (by kernel_rfl) u9 q0)) (fun q0 => Nat.not_lt.mp (fun u9 => lin [_] [] (.l 1 (.a (.c 3) (.c 1)) (.v 0) (.e 1 (.v 0) (.c 2) .n)) (by kernel_rfl) u9 q0)))
  have pB := fun w => tr_part (w := w) (c := th - 1) hx hy hz hD (by exact Or.elim ht (fun q0 => Nat.not_lt.mp (fun u9 => lin [_, _] [] (.l 1 (.a (.c 3) (.c 1)) (.v 1) (.e 1 (.v 0) (.c 1) (.e 1 (.a (.v 1) (.c 1)) (.v 0) .n))) (by kernel_rfl) u9 q0 (Nat.sub_add_cancel (Nat.not_lt.mp (fun u9 => lin [_] [] (.l 1 (.a (.v 0) (.c 1)) (.c 1) (.e (-1) (.v 0) (.c 1) .n)) (by kernel_rfl) u9 q0))))) (fun q0 => Nat.not_lt.mp (fun u9 => lin [_, _] [] (.l 1 (.a (.c 3) (.c 1)) (.v 1) (.e 1 (.v 0) (.c 2) (.e 1 (.a (.v 1) (.c 1)) (.v 0) .n))) (by kernel_rfl) u9 q0 (Nat.sub_add_cancel (Nat.not_lt.mp (fun u9 => lin [_] [] (.l 1 (.a (.v 0) (.c 1)) (.c 1) (.e (-1) (.v 0) (.c 2) .n)) (by kernel_rfl) u9 q0))))))
  unfold trR trG trB
  generalize hueN x y z = N at *
  generalize ((mxN x y z - mnN x y z : Nat) : Int) = D at *
  have s1 := ap_to (S' := 1125899906842624 * (D * 6144)) (v' := 2 * (th : Int) * 1152921504606846976 * D) (e' := 4096) (ap_scale D (by exact Int.not_lt.mp (fun u9 => lin [] [_] (.L 1 (.a (.v 0) (.i 1)) (.i 0) (.L 1 (.i 1) (.v 0) .n)) (by kernel_rfl) u9 hb1)) hth) (by exact linz [] [_] (.m (6 * 1152921504606846976) (.v 0)) (.m 1125899906842624 (.r (.v 0) 6144)) .n (by kernel_rfl)) rfl (by exact Int.not_lt.mp (fun u9 => lin [] [_] (.L 1 (.a (.i 4096) (.i 1)) (.m 256 (.v 0)) (.L 256 (.v 0) (.i 16) .n)) (by kernel_rfl) u9 hb))
  have s3 := ap_to (S' := 1125899906842624 * (D * 6144)) (v' := 2 * 1152921504606846976 * D) (e' := 4096) (ap_scale D (by exact Int.not_lt.mp (fun u9 => lin [] [_] (.L 1 (.a (.v 0) (.i 1)) (.i 0) (.L 1 (.i 1) (.v 0) .n)) (by kernel_rfl) u9 hb1)) k_t) (by exact linz [] [_] (.m (6 * 1152921504606846976) (.v 0)) (.m 1125899906842624 (.r (.v 0) 6144)) .n (by kernel_rfl)) rfl (by exact Int.not_lt.mp (fun u9 => lin [] [_] (.L 1 (.a (.i 4096) (.i 1)) (.m 256 (.v 0)) (.L 256 (.v 0) (.i 16) .n)) (by kernel_rfl) u9 hb))
  have s0 := ap_to (S' := 1125899906842624 * (D * 6144)) (v' := (N : Int) * 1152921504606846976) (e' := 16384) hh (by exact linz [] [_] (.r (.m 6 (.v 0)) 1152921504606846976) (.m 1125899906842624 (.r (.v 0) 6144)) .n (by kernel_rfl)) rfl (by decide)
  have s2 : Ap (1125899906842624 * (D * 6144)) (trH (x : Int) (y : Int) (z : Int) (th : Int)) (((N : Int) + 2 * D * (th : Int)) * 1152921504606846976) 118784 := by
    unfold trH
    refine ap_to (ap_add s0 s1 (by exact Int.not_le.mp (fun u9 => lin [] [_] (.L 1 (.r (.v 0) 6144) (.i 0) (.L 6144 (.i 1) (.v 0) .n)) (by kernel_rfl) u9 hb1)) ?_ ?_) rfl ?_ (by exact Int.not_lt.mp (fun u9 => lin [] [_] (.L 1 (.a (.i 118784) (.i 1)) (.a (.i (16384 + 4096)) (.r (.v 0) 6144)) (.L 6144 (.v 0) (.i 16) .n)) (by kernel_rfl) u9 hb))
    · rcases ht with rfl | rfl <;> (first | exact Int.not_lt.mp (fun u9 => lin [_] [_] (.L 1 (.a (.m 7 (.m 1125899906842624 (.r (.v 0) 6144))) (.i 1)) (.a (.a (.r (.z (.v 0)) 1152921504606846976) (.m ((2 * ((1 : Nat) : Int)) * 1152921504606846976) (.v 0))) (.i (16384 + 4096))) (.L 39199331156632797184 (.i 1) (.v 0) (.L 1152921504606846976 (.a (.z (.v 0)) (.i 1)) (.m 6 (.v 0)) .n))) (by kernel_rfl) u9 hb1 hN') | exact Int.not_lt.mp (fun u9 => lin [_] [_] (.L 1 (.a (.m 7 (.m 1125899906842624 (.r (.v 0) 6144))) (.i 1)) (.a (.a (.r (.z (.v 0)) 1152921504606846976) (.m ((2 * ((2 : Nat) : Int)) * 1152921504606846976) (.v 0))) (.i (16384 + 4096))) (.L 36893488147419103232 (.i 1) (.v 0) (.L 1152921504606846976 (.a (.z (.v 0)) (.i 1)) (.m 6 (.v 0)) .n))) (by kernel_rfl) u9 hb1 hN'))
    · rcases ht with rfl | rfl <;> (first | exact Int.not_lt.mp (fun u9 => lin [_] [_] (.L 1 (.a (.m 7 (.m 1125899906842624 (.r (.v 0) 6144))) (.i 1)) (.a (.g (.a (.r (.z (.v 0)) 1152921504606846976) (.m ((2 * ((1 : Nat) : Int)) * 1152921504606846976) (.v 0)))) (.i (16384 + 4096))) (.L 50728546202701266944 (.i 1) (.v 0) .n)) (by kernel_rfl) u9 hb1) | exact Int.not_lt.mp (fun u9 => lin [_] [_] (.L 1 (.a (.m 7 (.m 1125899906842624 (.r (.v 0) 6144))) (.i 1)) (.a (.g (.a (.r (.z (.v 0)) 1152921504606846976) (.m ((2 * ((2 : Nat) : Int)) * 1152921504606846976) (.v 0)))) (.i (16384 + 4096))) (.L 53034389211914960896 (.i 1) (.v 0) .n)) (by kernel_rfl) u9 hb1))
    · rcases ht with rfl | rfl <;> (first | exact linz [_] [_] (.a (.r (.z (.v 0)) 1152921504606846976) (.m ((2 * ((1 : Nat) : Int)) * 1152921504606846976) (.v 0))) (.r (.a (.z (.v 0)) (.r (.m 2 (.v 0)) ((1 : Nat) : Int))) 1152921504606846976) .n (by kernel_rfl) | exact linz [_] [_] (.a (.r (.z (.v 0)) 1152921504606846976) (.m ((2 * ((2 : Nat) : Int)) * 1152921504606846976) (.v 0))) (.r (.a (.z (.v 0)) (.r (.m 2 (.v 0)) ((2 : Nat) : Int))) 1152921504606846976) .n (by kernel_rfl))
  refine ⟨pR _ ?_, pG _ ?_, pB _ ?_⟩
  · refine ap_to (ap_add s2 s3 (by exact Int.not_le.mp (fun u9 => lin [] [_] (.L 1 (.r (.v 0) 6144) (.i 0) (.L 6144 (.i 1) (.v 0) .n)) (by kernel_rfl) u9 hb1)) ?_ ?_) (by exact linz [] [_] (.m 1125899906842624 (.r (.v 0) 6144)) (.r (.m 6 (.v 0)) 1152921504606846976) .n (by kernel_rfl)) ?_ (by exact Int.not_lt.mp (fun u9 => lin [] [_] (.L 1 (.a (.i 262144) (.i 1)) (.a (.i (118784 + 4096)) (.r (.v 0) 6144)) (.L 6144 (.v 0) (.i 16) .n)) (by kernel_rfl) u9 hb))
    · rcases ht with rfl | rfl <;> (first | exact Int.not_lt.mp (fun u9 => lin [_] [_] (.L 1 (.a (.m 7 (.m 1125899906842624 (.r (.v 0) 6144))) (.i 1)) (.a (.a (.r (.a (.z (.v 0)) (.r (.m 2 (.v 0)) ((1 : Nat) : Int))) 1152921504606846976) (.m (2 * 1152921504606846976) (.v 0))) (.i (118784 + 4096))) (.L 36893488147419103232 (.i 1) (.v 0) (.L 1152921504606846976 (.a (.z (.v 0)) (.i 1)) (.m 6 (.v 0)) .n))) (by kernel_rfl) u9 hb1 hN') | exact Int.not_lt.mp (fun u9 => lin [_] [_] (.L 1 (.a (.m 7 (.m 1125899906842624 (.r (.v 0) 6144))) (.i 1)) (.a (.a (.r (.a (.z (.v 0)) (.r (.m 2 (.v 0)) ((2 : Nat) : Int))) 1152921504606846976) (.m (2 * 1152921504606846976) (.v 0))) (.i (118784 + 4096))) (.L 34587645138205409280 (.i 1) (.v 0) (.L 1152921504606846976 (.a (.z (.v 0)) (.i 1)) (.m 6 (.v 0)) .n))) (by kernel_rfl) u9 hb1 hN'))
    · rcases ht with rfl | rfl <;> (first | exact Int.not_lt.mp (fun u9 => lin [_] [_] (.L 1 (.a (.m 7 (.m 1125899906842624 (.r (.v 0) 6144))) (.i 1)) (.a (.g (.a (.r (.a (.z (.v 0)) (.r (.m 2 (.v 0)) ((1 : Nat) : Int))) 1152921504606846976) (.m (2 * 1152921504606846976) (.v 0)))) (.i (118784 + 4096))) (.L 53034389211914960896 (.i 1) (.v 0) .n)) (by kernel_rfl) u9 hb1) | exact Int.not_lt.mp (fun u9 => lin [_] [_] (.L 1 (.a (.m 7 (.m 1125899906842624 (.r (.v 0) 6144))) (.i 1)) (.a (.g (.a (.r (.a (.z (.v 0)) (.r (.m 2 (.v 0)) ((2 : Nat) : Int))) 1152921504606846976) (.m (2 * 1152921504606846976) (.v 0)))) (.i (118784 + 4096))) (.L 55340232221128654848 (.i 1) (.v 0) .n)) (by kernel_rfl) u9 hb1))
    · rcases ht with rfl | rfl <;> (first | exact linz [_] [_] (.a (.r (.a (.z (.v 0)) (.r (.m 2 (.v 0)) ((1 : Nat) : Int))) 1152921504606846976) (.m (2 * 1152921504606846976) (.v 0))) (.r (.a (.z (.v 0)) (.r (.m 2 (.v 0)) (((1 + 1) : Nat) : Int))) 1152921504606846976) .n (by kernel_rfl) | exact linz [_] [_] (.a (.r (.a (.z (.v 0)) (.r (.m 2 (.v 0)) ((2 : Nat) : Int))) 1152921504606846976) (.m (2 * 1152921504606846976) (.v 0))) (.r (.a (.z (.v 0)) (.r (.m 2 (.v 0)) (((2 + 1) : Nat) : Int))) 1152921504606846976) .n (by kernel_rfl))
  · exact ap_to s2 (by exact linz [] [_] (.m 1125899906842624 (.r (.v 0) 6144)) (.r (.m 6 (.v 0)) 1152921504606846976) .n (by kernel_rfl)) rfl (by decide)
  · refine ap_to (ap_sub s2 s3 (by exact Int.not_le.mp (fun u9 => lin [] [_] (.L 1 (.r (.v 0) 6144) (.i 0) (.L 6144 (.i 1) (.v 0) .n)) (by kernel_rfl) u9 hb1)) ?_ ?_) (by exact linz [] [_] (.m 1125899906842624 (.r (.v 0) 6144)) (.r (.m 6 (.v 0)) 1152921504606846976) .n (by kernel_rfl)) ?_ (by exact Int.not_lt.mp (fun u9 => lin [] [_] (.L 1 (.a (.i 262144) (.i 1)) (.a (.i (118784 + 4096)) (.r (.v 0) 6144)) (.L 6144 (.v 0) (.i 16) .n)) (by kernel_rfl) u9 hb))
    · rcases ht with rfl | rfl <;> (first | exact Int.not_lt.mp (fun u9 => lin [_] [_] (.L 1 (.a (.m 7 (.m 1125899906842624 (.r (.v 0) 6144))) (.i 1)) (.a (.s (.r (.a (.z (.v 0)) (.r (.m 2 (.v 0)) ((1 : Nat) : Int))) 1152921504606846976) (.m (2 * 1152921504606846976) (.v 0))) (.i (118784 + 4096))) (.L 41505174165846491136 (.i 1) (.v 0) (.L 1152921504606846976 (.a (.z (.v 0)) (.i 1)) (.m 6 (.v 0)) .n))) (by kernel_rfl) u9 hb1 hN') | exact Int.not_lt.mp (fun u9 => lin [_] [_] (.L 1 (.a (.m 7 (.m 1125899906842624 (.r (.v 0) 6144))) (.i 1)) (.a (.s (.r (.a (.z (.v 0)) (.r (.m 2 (.v 0)) ((2 : Nat) : Int))) 1152921504606846976) (.m (2 * 1152921504606846976) (.v 0))) (.i (118784 + 4096))) (.L 39199331156632797184 (.i 1) (.v 0) (.L 1152921504606846976 (.a (.z (.v 0)) (.i 1)) (.m 6 (.v 0)) .n))) (by kernel_rfl) u9 hb1 hN'))
    · rcases ht with rfl | rfl <;> (first | exact Int.not_lt.mp (fun u9 => lin [_] [_] (.L 1 (.a (.m 7 (.m 1125899906842624 (.r (.v 0) 6144))) (.i 1)) (.a (.g (.s (.r (.a (.z (.v 0)) (.r (.m 2 (.v 0)) ((1 : Nat) : Int))) 1152921504606846976) (.m (2 * 1152921504606846976) (.v 0)))) (.i (118784 + 4096))) (.L 48422703193487572992 (.i 1) (.v 0) .n)) (by kernel_rfl) u9 hb1) | exact Int.not_lt.mp (fun u9 => lin [_] [_] (.L 1 (.a (.m 7 (.m 1125899906842624 (.r (.v 0) 6144))) (.i 1)) (.a (.g (.s (.r (.a (.z (.v 0)) (.r (.m 2 (.v 0)) ((2 : Nat) : Int))) 1152921504606846976) (.m (2 * 1152921504606846976) (.v 0)))) (.i (118784 + 4096))) (.L 50728546202701266944 (.i 1) (.v 0) .n)) (by kernel_rfl) u9 hb1))
    · rcases ht with rfl | rfl <;> lia
end
section
open PySem.Float64
theorem mx_rot (x y z : Nat) : mxN z x y = mxN x y z ∧ mnN z x y = mnN x y z := by
  unfold mxN mnN
  rw [Nat.max_comm z, Nat.max_assoc, Nat.min_comm z, Nat.min_assoc]
  exact ⟨rfl, rfl⟩
theorem hueN_rot {x y z : Nat} (hD : mnN x y z < mxN x y z) : (hueN z x y : Int) = (hueN x y z : Int) + 2 * ((mxN x y z - mnN x y z : Nat) : Int) ∨ (hueN z x y : Int) = (hueN x y z : Int) + 2 * ((mxN x y z - mnN x y z : Nat) : Int) - 6 * ((mxN x y z - mnN x y z : Nat) : Int) := by
  have hM := mx_facts x y z
  have hm := mn_facts x y z
  unfold hueN
  rw [(mx_rot x y z).1, (mx_rot x y z).2]
  generalize mxN x y z = M at *
  generalize mnN x y z = m at *
  obtain ⟨a1, a2, a3, a4⟩ := hM
  obtain ⟨b1, b2, b3, b4⟩ := hm
  by_cases e1 : x = M
  · by_cases e2 : z = M
    · rw [if_pos e1, if_pos e2]; (repeat' split) <;> (first | (rename_i w0 w1; exact Or.inl (Int.le_antisymm (Int.not_lt.mp (fun u9 => lin [_, _, _, _, _, _, _] [] (.L 0 (.a (.a (.z (.v 4)) (.m 2 (.z (.v 5)))) (.i 1)) (.z (.v 6)) (.e (-1) (.v 0) (.v 1) (.e 1 (.v 2) (.v 1) (.l 1 (.a (.v 0) (.c 1)) (.v 3) (.l 1 (.a (.v 3) (.c 1)) (.v 2) .n))))) (by kernel_rfl) u9 e1 e2 w0 w1)) (Int.not_lt.mp (fun u9 => lin [_, _, _, _, _, _, _] [] (.L 0 (.a (.z (.v 4)) (.i 1)) (.a (.z (.v 5)) (.m 2 (.z (.v 6)))) (.e (-1) (.v 0) (.v 1) (.e 1 (.v 2) (.v 1) (.l 1 (.a (.v 0) (.c 1)) (.v 3) (.l 1 (.a (.v 3) (.c 1)) (.v 2) .n))))) (by kernel_rfl) u9 e1 e2 w0 w1)))) | (rename_i w0 w1; exact Or.inl (Int.le_antisymm (Int.not_lt.mp (fun u9 => lin [_, _, _, _, _, _] [] (.L 0 (.a (.a (.z (.v 3)) (.m 2 (.z (.v 4)))) (.i 1)) (.z (.v 5)) (.l 1 (.v 0) (.v 1) (.e (-1) (.v 2) (.v 1) (.l 1 (.a (.v 2) (.c 1)) (.v 0) .n)))) (by kernel_rfl) u9 a2 e1 w0)) (Int.not_lt.mp (fun u9 => lin [_, _, _, _, _, _, _, _] [] (.L 1 (.a (.z (.v 4)) (.i 1)) (.a (.z (.v 5)) (.m 2 (.z (.v 6)))) (.l 2 (.v 0) (.v 1) (.e (-1) (.v 2) (.v 1) (.e (-1) (.v 3) (.v 1) (.e (-1) (.a (.v 4) (.v 7)) (.m 6 (.v 6)) (.e 1 (.a (.v 5) (.v 3)) (.v 0) (.e 1 (.a (.v 7) (.v 2)) (.v 0) .n))))))) (by kernel_rfl) u9 a2 e1 e2 (Nat.sub_add_cancel (Nat.not_lt.mp (fun u9 => lin [_, _, _, _, _] [] (.l 0 (.a (.m 6 (.v 3)) (.c 1)) (.v 4) (.l 1 (.v 0) (.v 1) (.e (-1) (.v 2) (.v 1) (.l 1 (.a (.v 2) (.c 1)) (.v 0) .n)))) (by kernel_rfl) u9 a2 e1 w0))) (Nat.sub_add_cancel (Nat.not_lt.mp (fun u9 => lin [_, _, _, _] [] (.l 1 (.a (.v 0) (.c 1)) (.v 3) (.e (-1) (.v 2) (.v 1) (.e 1 (.v 3) (.v 1) (.l 1 (.a (.v 2) (.c 1)) (.v 0) .n)))) (by kernel_rfl) u9 e1 e2 w0))) (Nat.sub_add_cancel (Nat.not_lt.mp (fun u9 => lin [_, _] [] (.l 1 (.a (.v 0) (.c 1)) (.v 1) (.l 1 (.a (.v 1) (.c 1)) (.v 0) .n)) (by kernel_rfl) u9 w0))))))) | (rename_i w0; exact Or.elim b4 (fun q0 => Or.inl (Int.le_antisymm (Int.not_lt.mp (fun u9 => lin [_, _, _, _, _, _] [] (.L 0 (.a (.a (.z (.v 3)) (.m 2 (.z (.v 4)))) (.i 1)) (.z (.v 5)) (.l 1 (.a (.v 0) (.c 1)) (.v 1) (.e (-1) (.v 2) (.v 1) (.e 1 (.v 2) (.v 0) .n)))) (by kernel_rfl) u9 hD e1 q0)) (Int.not_lt.mp (fun u9 => lin [_, _, _, _, _, _] [] (.L 0 (.a (.z (.v 3)) (.i 1)) (.a (.z (.v 4)) (.m 2 (.z (.v 5)))) (.l 1 (.a (.v 0) (.c 1)) (.v 1) (.e (-1) (.v 2) (.v 1) (.e 1 (.v 2) (.v 0) .n)))) (by kernel_rfl) u9 hD e1 q0)))) (fun q0 => Or.elim q0 (fun q1 => Or.inl (linz [_, _, _, _, _, _, _, _] [] (.z (.v 5)) (.a (.z (.v 6)) (.m 2 (.z (.v 7)))) (.e (-1) (.v 3) (.v 1) (.e (-1) (.v 4) (.v 1) (.e 2 (.v 2) (.v 0) (.e (-1) (.a (.v 5) (.v 2)) (.v 3) (.e 1 (.a (.v 6) (.v 4)) (.v 2) (.e 2 (.a (.v 7) (.v 0)) (.v 1) .n)))))) (by kernel_rfl) e1 e2 q1 (Nat.sub_add_cancel (Nat.not_lt.mp (fun u9 => lin [_, _, _, _] [] (.l 1 (.a (.v 3) (.c 1)) (.v 2) (.l 1 (.a (.v 0) (.c 1)) (.v 1) (.e (-1) (.v 3) (.v 1) (.e 1 (.v 2) (.v 0) .n)))) (by kernel_rfl) u9 hD e1 q1))) (Nat.sub_add_cancel (Nat.not_lt.mp (fun u9 => lin [_, _] [] (.l 1 (.a (.v 0) (.c 1)) (.v 1) (.l 1 (.v 1) (.v 0) .n)) (by kernel_rfl) u9 (Nat.not_lt.mp w0)))) (Nat.sub_add_cancel (Nat.not_lt.mp (fun u9 => lin [_, _] [] (.l 1 (.a (.v 1) (.c 1)) (.v 0) (.l 1 (.a (.v 0) (.c 1)) (.v 1) .n)) (by kernel_rfl) u9 hD))))) (fun q1 => Or.inl (Int.le_antisymm (Int.not_lt.mp (fun u9 => lin [_, _, _, _, _, _] [] (.L 0 (.a (.a (.z (.v 3)) (.m 2 (.z (.v 4)))) (.i 1)) (.z (.v 5)) (.l 1 (.a (.v 0) (.c 1)) (.v 1) (.e (-1) (.v 2) (.v 1) (.e 1 (.v 2) (.v 0) .n)))) (by kernel_rfl) u9 hD e2 q1)) (Int.not_lt.mp (fun u9 => lin [_, _, _, _, _, _] [] (.L 0 (.a (.z (.v 3)) (.i 1)) (.a (.z (.v 4)) (.m 2 (.z (.v 5)))) (.l 1 (.a (.v 0) (.c 1)) (.v 1) (.e (-1) (.v 2) (.v 1) (.e 1 (.v 2) (.v 0) .n)))) (by kernel_rfl) u9 hD e2 q1)))))) | (rename_i w0; exact Or.elim b4 (fun q0 => Or.inl (Int.le_antisymm (Int.not_lt.mp (fun u9 => lin [_, _, _, _, _, _] [] (.L 0 (.a (.a (.z (.v 3)) (.m 2 (.z (.v 4)))) (.i 1)) (.z (.v 5)) (.l 1 (.a (.v 0) (.c 1)) (.v 1) (.e (-1) (.v 2) (.v 1) (.e 1 (.v 2) (.v 0) .n)))) (by kernel_rfl) u9 hD e1 q0)) (Int.not_lt.mp (fun u9 => lin [_, _, _, _, _, _] [] (.L 0 (.a (.z (.v 3)) (.i 1)) (.a (.z (.v 4)) (.m 2 (.z (.v 5)))) (.l 1 (.a (.v 0) (.c 1)) (.v 1) (.e (-1) (.v 2) (.v 1) (.e 1 (.v 2) (.v 0) .n)))) (by kernel_rfl) u9 hD e1 q0)))) (fun q0 => Or.elim q0 (fun q1 => Or.inr (linz [_, _, _, _, _, _, _, _, _] [] (.z (.v 5)) (.s (.a (.z (.v 6)) (.m 2 (.z (.v 7)))) (.m 6 (.z (.v 7)))) (.e (-1) (.v 3) (.v 1) (.e (-1) (.v 4) (.v 1) (.e 2 (.v 2) (.v 0) (.e (-1) (.a (.v 5) (.v 2)) (.v 3) (.e 1 (.a (.v 6) (.v 8)) (.m 6 (.v 7)) (.e 2 (.a (.v 7) (.v 0)) (.v 1) (.e (-1) (.a (.v 8) (.v 2)) (.v 4) .n))))))) (by kernel_rfl) e1 e2 q1 (Nat.sub_add_cancel (Nat.not_lt.mp (fun u9 => lin [_, _, _, _] [] (.l 1 (.a (.v 2) (.c 1)) (.v 1) (.e (-1) (.v 2) (.v 0) (.e 1 (.v 3) (.v 0) (.l 1 (.a (.v 1) (.c 1)) (.v 3) .n)))) (by kernel_rfl) u9 e1 e2 w0))) (Nat.sub_add_cancel (Nat.not_lt.mp (fun u9 => lin [_, _, _, _, _, _] [] (.l 1 (.a (.m 6 (.v 4)) (.c 1)) (.v 5) (.e 6 (.v 3) (.v 1) (.l 5 (.a (.v 2) (.c 1)) (.v 3) (.e (-6) (.v 2) (.v 0) (.e (-6) (.a (.v 4) (.v 0)) (.v 1) (.e 1 (.a (.v 5) (.v 2)) (.v 3) .n)))))) (by kernel_rfl) u9 e2 w0 q1 (Nat.sub_add_cancel (Nat.not_lt.mp (fun u9 => lin [_, _, _, _] [] (.l 1 (.a (.v 1) (.c 1)) (.v 0) (.e 1 (.v 3) (.v 1) (.l 1 (.a (.v 2) (.c 1)) (.v 3) (.e (-1) (.v 2) (.v 0) .n)))) (by kernel_rfl) u9 e2 w0 q1))) (Nat.sub_add_cancel (Nat.not_lt.mp (fun u9 => lin [_, _] [] (.l 1 (.a (.v 1) (.c 1)) (.v 0) (.l 1 (.a (.v 0) (.c 1)) (.v 1) .n)) (by kernel_rfl) u9 w0)))))) (Nat.sub_add_cancel (Nat.not_lt.mp (fun u9 => lin [_, _, _, _] [] (.l 1 (.a (.v 1) (.c 1)) (.v 0) (.e 1 (.v 3) (.v 1) (.l 1 (.a (.v 2) (.c 1)) (.v 3) (.e (-1) (.v 2) (.v 0) .n)))) (by kernel_rfl) u9 e2 w0 q1))) (Nat.sub_add_cancel (Nat.not_lt.mp (fun u9 => lin [_, _] [] (.l 1 (.a (.v 1) (.c 1)) (.v 0) (.l 1 (.a (.v 0) (.c 1)) (.v 1) .n)) (by kernel_rfl) u9 w0))))) (fun q1 => Or.inl (Int.le_antisymm (Int.not_lt.mp (fun u9 => lin [_, _, _, _, _, _] [] (.L 0 (.a (.a (.z (.v 3)) (.m 2 (.z (.v 4)))) (.i 1)) (.z (.v 5)) (.l 1 (.a (.v 0) (.c 1)) (.v 1) (.e (-1) (.v 2) (.v 1) (.e 1 (.v 2) (.v 0) .n)))) (by kernel_rfl) u9 hD e2 q1)) (Int.not_lt.mp (fun u9 => lin [_, _, _, _, _, _] [] (.L 0 (.a (.z (.v 3)) (.i 1)) (.a (.z (.v 4)) (.m 2 (.z (.v 5)))) (.l 1 (.a (.v 0) (.c 1)) (.v 1) (.e (-1) (.v 2) (.v 1) (.e 1 (.v 2) (.v 0) .n)))) (by kernel_rfl) u9 hD e2 q1)))))))
    · rw [if_pos e1, if_neg e2, if_pos e1]; (repeat' split) <;> (first | (rename_i w0; exact Or.inl (linz [_, _, _, _, _] [] (.z (.v 2)) (.a (.z (.v 3)) (.m 2 (.z (.v 4)))) (.e (-1) (.a (.v 2) (.v 0)) (.a (.m 2 (.v 4)) (.v 1)) (.e 1 (.a (.v 3) (.v 0)) (.v 1) .n)) (by kernel_rfl) (Nat.sub_add_cancel (Nat.not_lt.mp (fun u9 => lin [_, _, _, _, _] [] (.l 1 (.a (.a (.m 2 (.v 4)) (.v 3)) (.c 1)) (.v 2) (.l 1 (.a (.v 0) (.c 1)) (.v 1) (.l 1 (.v 2) (.v 1) (.l 1 (.v 0) (.v 3) (.e (-2) (.a (.v 4) (.v 0)) (.v 1) .n))))) (by kernel_rfl) u9 hD a3 b2 (Nat.sub_add_cancel (Nat.not_lt.mp (fun u9 => lin [_, _] [] (.l 1 (.a (.v 1) (.c 1)) (.v 0) (.l 1 (.a (.v 0) (.c 1)) (.v 1) .n)) (by kernel_rfl) u9 hD)))))) (Nat.sub_add_cancel (Nat.not_lt.mp (fun u9 => lin [_, _] [] (.l 1 (.a (.v 1) (.c 1)) (.v 0) (.l 1 (.v 0) (.v 1) .n)) (by kernel_rfl) u9 (Nat.not_lt.mp w0)))))) | (rename_i w0; exact Or.inr (linz [_, _, _, _, _, _] [] (.z (.v 2)) (.s (.a (.z (.v 3)) (.m 2 (.z (.v 4)))) (.m 6 (.z (.v 4)))) (.e (-1) (.a (.v 2) (.v 0)) (.a (.m 2 (.v 4)) (.v 1)) (.e 1 (.a (.v 3) (.v 5)) (.m 6 (.v 4)) (.e (-1) (.a (.v 5) (.v 1)) (.v 0) .n))) (by kernel_rfl) (Nat.sub_add_cancel (Nat.not_lt.mp (fun u9 => lin [_, _, _, _, _] [] (.l 1 (.a (.a (.m 2 (.v 4)) (.v 3)) (.c 1)) (.v 2) (.l 1 (.a (.v 0) (.c 1)) (.v 1) (.l 1 (.v 2) (.v 1) (.l 1 (.v 0) (.v 3) (.e (-2) (.a (.v 4) (.v 0)) (.v 1) .n))))) (by kernel_rfl) u9 hD a3 b2 (Nat.sub_add_cancel (Nat.not_lt.mp (fun u9 => lin [_, _] [] (.l 1 (.a (.v 1) (.c 1)) (.v 0) (.l 1 (.a (.v 0) (.c 1)) (.v 1) .n)) (by kernel_rfl) u9 hD)))))) (Nat.sub_add_cancel (Nat.not_lt.mp (fun u9 => lin [_, _, _, _, _, _] [] (.l 1 (.a (.m 6 (.v 4)) (.c 1)) (.v 5) (.l 6 (.v 2) (.v 1) (.l 6 (.v 0) (.v 3) (.e (-6) (.a (.v 4) (.v 0)) (.v 1) (.e 6 (.a (.v 5) (.v 3)) (.v 2) .n))))) (by kernel_rfl) u9 a3 b2 (Nat.sub_add_cancel (Nat.not_lt.mp (fun u9 => lin [_, _] [] (.l 1 (.a (.v 1) (.c 1)) (.v 0) (.l 1 (.a (.v 0) (.c 1)) (.v 1) .n)) (by kernel_rfl) u9 hD))) (Nat.sub_add_cancel (Nat.not_lt.mp (fun u9 => lin [_, _] [] (.l 1 (.a (.v 0) (.c 1)) (.v 1) (.l 1 (.a (.v 1) (.c 1)) (.v 0) .n)) (by kernel_rfl) u9 w0)))))) (Nat.sub_add_cancel (Nat.not_lt.mp (fun u9 => lin [_, _] [] (.l 1 (.a (.v 0) (.c 1)) (.v 1) (.l 1 (.a (.v 1) (.c 1)) (.v 0) .n)) (by kernel_rfl) u9 w0))))))
  · by_cases e2 : z = M
    · by_cases e3 : y = M
      · rw [if_neg e1, if_pos e2, if_pos e3]; (repeat' split) <;> (first | exact Or.elim b4 (fun q0 => Or.inl (linz [_, _, _, _, _, _, _, _, _] [] (.z (.v 5)) (.a (.z (.v 6)) (.m 2 (.z (.v 7)))) (.e 1 (.v 3) (.v 1) (.e 1 (.v 4) (.v 1) (.e (-2) (.v 2) (.v 0) (.e (-1) (.a (.v 5) (.v 8)) (.m 6 (.v 7)) (.e 1 (.a (.v 6) (.v 2)) (.a (.m 2 (.v 7)) (.v 3)) (.e (-2) (.a (.v 7) (.v 0)) (.v 1) (.e 1 (.a (.v 8) (.v 2)) (.v 4) .n))))))) (by kernel_rfl) e2 e3 q0 (Nat.sub_add_cancel (Nat.not_lt.mp (fun u9 => lin [_, _, _, _, _, _] [] (.l 1 (.a (.m 6 (.v 4)) (.c 1)) (.v 5) (.l 5 (.a (.v 0) (.c 1)) (.v 1) (.e 1 (.v 3) (.v 1) (.e (-1) (.v 2) (.v 0) (.e (-6) (.a (.v 4) (.v 0)) (.v 1) (.e 1 (.a (.v 5) (.v 2)) (.v 3) .n)))))) (by kernel_rfl) u9 hD e3 q0 (Nat.sub_add_cancel (Nat.not_lt.mp (fun u9 => lin [_, _] [] (.l 1 (.a (.v 1) (.c 1)) (.v 0) (.l 1 (.a (.v 0) (.c 1)) (.v 1) .n)) (by kernel_rfl) u9 hD))) (Nat.sub_add_cancel (Nat.not_lt.mp (fun u9 => lin [_, _, _, _] [] (.l 1 (.a (.v 3) (.c 1)) (.v 2) (.l 1 (.a (.v 0) (.c 1)) (.v 1) (.e (-1) (.v 3) (.v 1) (.e 1 (.v 2) (.v 0) .n)))) (by kernel_rfl) u9 hD e3 q0)))))) (Nat.sub_add_cancel (Nat.not_lt.mp (fun u9 => lin [_, _, _, _, _] [] (.l 1 (.a (.a (.m 2 (.v 4)) (.v 3)) (.c 1)) (.v 2) (.l 3 (.a (.v 0) (.c 1)) (.v 1) (.e (-1) (.v 3) (.v 1) (.e 1 (.v 2) (.v 0) (.e (-2) (.a (.v 4) (.v 0)) (.v 1) .n))))) (by kernel_rfl) u9 hD e2 q0 (Nat.sub_add_cancel (Nat.not_lt.mp (fun u9 => lin [_, _] [] (.l 1 (.a (.v 1) (.c 1)) (.v 0) (.l 1 (.a (.v 0) (.c 1)) (.v 1) .n)) (by kernel_rfl) u9 hD)))))) (Nat.sub_add_cancel (Nat.not_lt.mp (fun u9 => lin [_, _] [] (.l 1 (.a (.v 1) (.c 1)) (.v 0) (.l 1 (.a (.v 0) (.c 1)) (.v 1) .n)) (by kernel_rfl) u9 hD))) (Nat.sub_add_cancel (Nat.not_lt.mp (fun u9 => lin [_, _, _, _] [] (.l 1 (.a (.v 3) (.c 1)) (.v 2) (.l 1 (.a (.v 0) (.c 1)) (.v 1) (.e (-1) (.v 3) (.v 1) (.e 1 (.v 2) (.v 0) .n)))) (by kernel_rfl) u9 hD e3 q0))))) (fun q0 => Or.elim q0 (fun q2 => Or.inl (Int.le_antisymm (Int.not_lt.mp (fun u9 => lin [_, _, _, _, _, _] [] (.L 0 (.a (.a (.z (.v 3)) (.m 2 (.z (.v 4)))) (.i 1)) (.z (.v 5)) (.l 1 (.a (.v 0) (.c 1)) (.v 1) (.e (-1) (.v 2) (.v 1) (.e 1 (.v 2) (.v 0) .n)))) (by kernel_rfl) u9 hD e3 q2)) (Int.not_lt.mp (fun u9 => lin [_, _, _, _, _, _] [] (.L 0 (.a (.z (.v 3)) (.i 1)) (.a (.z (.v 4)) (.m 2 (.z (.v 5)))) (.l 1 (.a (.v 0) (.c 1)) (.v 1) (.e (-1) (.v 2) (.v 1) (.e 1 (.v 2) (.v 0) .n)))) (by kernel_rfl) u9 hD e3 q2)))) (fun q2 => Or.inl (Int.le_antisymm (Int.not_lt.mp (fun u9 => lin [_, _, _, _, _, _] [] (.L 0 (.a (.a (.z (.v 3)) (.m 2 (.z (.v 4)))) (.i 1)) (.z (.v 5)) (.l 1 (.a (.v 0) (.c 1)) (.v 1) (.e (-1) (.v 2) (.v 1) (.e 1 (.v 2) (.v 0) .n)))) (by kernel_rfl) u9 hD e2 q2)) (Int.not_lt.mp (fun u9 => lin [_, _, _, _, _, _] [] (.L 0 (.a (.z (.v 3)) (.i 1)) (.a (.z (.v 4)) (.m 2 (.z (.v 5)))) (.l 1 (.a (.v 0) (.c 1)) (.v 1) (.e (-1) (.v 2) (.v 1) (.e 1 (.v 2) (.v 0) .n)))) (by kernel_rfl) u9 hD e2 q2))))) | (rename_i w0; exact Or.elim (Nat.lt_or_gt_of_ne e1) (fun q0 => Or.inl (Int.le_antisymm (Int.not_lt.mp (fun u9 => lin [_, _, _, _, _, _] [] (.L 1 (.a (.a (.z (.v 3)) (.m 2 (.z (.v 4)))) (.i 1)) (.z (.v 5)) (.l 1 (.v 0) (.v 1) (.e (-1) (.v 2) (.v 1) (.e 1 (.a (.v 5) (.v 2)) (.v 0) .n)))) (by kernel_rfl) u9 a1 e3 (Nat.sub_add_cancel (Nat.not_lt.mp (fun u9 => lin [_, _] [] (.l 1 (.a (.v 0) (.c 1)) (.v 1) (.l 1 (.v 1) (.v 0) .n)) (by kernel_rfl) u9 (Nat.not_lt.mp w0)))))) (Int.not_lt.mp (fun u9 => lin [_, _, _, _, _, _] [] (.L 0 (.a (.z (.v 3)) (.i 1)) (.a (.z (.v 4)) (.m 2 (.z (.v 5)))) (.e (-1) (.v 2) (.v 1) (.l 1 (.a (.v 0) (.c 1)) (.v 1) (.e 1 (.a (.v 3) (.v 2)) (.v 0) .n)))) (by kernel_rfl) u9 e3 q0 (Nat.sub_add_cancel (Nat.not_lt.mp (fun u9 => lin [_, _] [] (.l 1 (.a (.v 0) (.c 1)) (.v 1) (.l 1 (.v 1) (.v 0) .n)) (by kernel_rfl) u9 (Nat.not_lt.mp w0)))))))) (fun q0 => Or.inl (Int.le_antisymm (Int.not_lt.mp (fun u9 => lin [_, _, _, _, _] [] (.L 0 (.a (.a (.z (.v 2)) (.m 2 (.z (.v 3)))) (.i 1)) (.z (.v 4)) (.l 1 (.v 0) (.v 1) (.l 1 (.a (.v 1) (.c 1)) (.v 0) .n))) (by kernel_rfl) u9 a1 q0)) (Int.not_lt.mp (fun u9 => lin [_, _, _, _, _] [] (.L 0 (.a (.z (.v 2)) (.i 1)) (.a (.z (.v 3)) (.m 2 (.z (.v 4)))) (.l 1 (.v 0) (.v 1) (.l 1 (.a (.v 1) (.c 1)) (.v 0) .n))) (by kernel_rfl) u9 a1 q0))))))
      · rw [if_neg e1, if_pos e2, if_neg e3]; (repeat' split) <;> (first | (rename_i w0; exact Or.inl (linz [_, _, _, _, _, _] [] (.z (.v 2)) (.a (.z (.v 3)) (.m 2 (.z (.v 4)))) (.e (-1) (.a (.v 2) (.v 5)) (.m 6 (.v 4)) (.e 1 (.a (.v 3) (.v 0)) (.a (.m 4 (.v 4)) (.v 1)) (.e 1 (.a (.v 5) (.v 1)) (.v 0) .n))) (by kernel_rfl) (Nat.sub_add_cancel (Nat.not_lt.mp (fun u9 => lin [_, _, _, _, _, _] [] (.l 1 (.a (.m 6 (.v 4)) (.c 1)) (.v 5) (.l 6 (.v 2) (.v 1) (.l 6 (.v 0) (.v 3) (.e (-6) (.a (.v 4) (.v 0)) (.v 1) (.e 6 (.a (.v 5) (.v 3)) (.v 2) .n))))) (by kernel_rfl) u9 a2 b1 (Nat.sub_add_cancel (Nat.not_lt.mp (fun u9 => lin [_, _] [] (.l 1 (.a (.v 1) (.c 1)) (.v 0) (.l 1 (.a (.v 0) (.c 1)) (.v 1) .n)) (by kernel_rfl) u9 hD))) (Nat.sub_add_cancel (Nat.not_lt.mp (fun u9 => lin [_, _] [] (.l 1 (.a (.v 0) (.c 1)) (.v 1) (.l 1 (.a (.v 1) (.c 1)) (.v 0) .n)) (by kernel_rfl) u9 w0)))))) (Nat.sub_add_cancel (Nat.not_lt.mp (fun u9 => lin [_, _, _, _, _] [] (.l 1 (.a (.a (.m 4 (.v 4)) (.v 3)) (.c 1)) (.v 2) (.l 3 (.a (.v 0) (.c 1)) (.v 1) (.l 1 (.v 2) (.v 1) (.l 1 (.v 0) (.v 3) (.e (-4) (.a (.v 4) (.v 0)) (.v 1) .n))))) (by kernel_rfl) u9 hD a2 b1 (Nat.sub_add_cancel (Nat.not_lt.mp (fun u9 => lin [_, _] [] (.l 1 (.a (.v 1) (.c 1)) (.v 0) (.l 1 (.a (.v 0) (.c 1)) (.v 1) .n)) (by kernel_rfl) u9 hD)))))) (Nat.sub_add_cancel (Nat.not_lt.mp (fun u9 => lin [_, _] [] (.l 1 (.a (.v 0) (.c 1)) (.v 1) (.l 1 (.a (.v 1) (.c 1)) (.v 0) .n)) (by kernel_rfl) u9 w0))))) | (rename_i w0; exact Or.inr (linz [_, _, _, _, _] [] (.z (.v 2)) (.s (.a (.z (.v 3)) (.m 2 (.z (.v 4)))) (.m 6 (.z (.v 4)))) (.e (-1) (.a (.v 2) (.v 0)) (.v 1) (.e 1 (.a (.v 3) (.v 0)) (.a (.m 4 (.v 4)) (.v 1)) .n)) (by kernel_rfl) (Nat.sub_add_cancel (Nat.not_lt.mp (fun u9 => lin [_, _] [] (.l 1 (.a (.v 1) (.c 1)) (.v 0) (.l 1 (.v 0) (.v 1) .n)) (by kernel_rfl) u9 (Nat.not_lt.mp w0)))) (Nat.sub_add_cancel (Nat.not_lt.mp (fun u9 => lin [_, _, _, _, _] [] (.l 1 (.a (.a (.m 4 (.v 4)) (.v 3)) (.c 1)) (.v 2) (.l 3 (.a (.v 0) (.c 1)) (.v 1) (.l 1 (.v 2) (.v 1) (.l 1 (.v 0) (.v 3) (.e (-4) (.a (.v 4) (.v 0)) (.v 1) .n))))) (by kernel_rfl) u9 hD a2 b1 (Nat.sub_add_cancel (Nat.not_lt.mp (fun u9 => lin [_, _] [] (.l 1 (.a (.v 1) (.c 1)) (.v 0) (.l 1 (.a (.v 0) (.c 1)) (.v 1) .n)) (by kernel_rfl) u9 hD)))))))))
    · by_cases e3 : y = M
      · rw [if_neg e1, if_neg e2, if_pos e3, if_neg e1]; exact Or.inl (linz [_, _, _, _, _] [] (.z (.v 2)) (.a (.z (.v 3)) (.m 2 (.z (.v 4)))) (.e (-1) (.a (.v 2) (.v 0)) (.a (.m 4 (.v 4)) (.v 1)) (.e 1 (.a (.v 3) (.v 0)) (.a (.m 2 (.v 4)) (.v 1)) .n)) (by kernel_rfl) (Nat.sub_add_cancel (Nat.not_lt.mp (fun u9 => lin [_, _, _, _, _] [] (.l 1 (.a (.a (.m 4 (.v 4)) (.v 3)) (.c 1)) (.v 2) (.l 3 (.a (.v 0) (.c 1)) (.v 1) (.l 1 (.v 2) (.v 1) (.l 1 (.v 0) (.v 3) (.e (-4) (.a (.v 4) (.v 0)) (.v 1) .n))))) (by kernel_rfl) u9 hD a1 b3 (Nat.sub_add_cancel (Nat.not_lt.mp (fun u9 => lin [_, _] [] (.l 1 (.a (.v 1) (.c 1)) (.v 0) (.l 1 (.a (.v 0) (.c 1)) (.v 1) .n)) (by kernel_rfl) u9 hD)))))) (Nat.sub_add_cancel (Nat.not_lt.mp (fun u9 => lin [_, _, _, _, _] [] (.l 1 (.a (.a (.m 2 (.v 4)) (.v 3)) (.c 1)) (.v 2) (.l 1 (.a (.v 0) (.c 1)) (.v 1) (.l 1 (.v 2) (.v 1) (.l 1 (.v 0) (.v 3) (.e (-2) (.a (.v 4) (.v 0)) (.v 1) .n))))) (by kernel_rfl) u9 hD a1 b3 (Nat.sub_add_cancel (Nat.not_lt.mp (fun u9 => lin [_, _] [] (.l 1 (.a (.v 1) (.c 1)) (.v 0) (.l 1 (.a (.v 0) (.c 1)) (.v 1) .n)) (by kernel_rfl) u9 hD)))))))
      · lia
/-- int(3 * ((h2 - h1) % 1.0) + 0.5) -/
noncomputable def thF (h1 h2 : UInt64) : UInt64 := Float64.add (Float64.mul (Float64.ofInt 3) (vM (Float64.sub h2 h1))) 4602678819172646912
theorem three : Fn (ofInt 3) ∧ val (ofInt 3) * 1152921504606846976 = 3458764513820540928 * PP := ⟨fn_of (by decide +kernel), by decide +kernel⟩
theorem th_of {h1 h2 : UInt64} {N1 N2 D th j : Int} (a : Ap (6 * D * 1152921504606846976) h1 (N1 * 1152921504606846976) 16384) (b : Ap (6 * D * 1152921504606846976) h2 (N2 * 1152921504606846976) 16384) (hD : 1 ≤ D) (hD2 : D ≤ 16) (ht : th = 1 ∨ th = 2) (hn : N2 - N1 = 2 * D * th + 6 * D * j)
    (g1 : 0 ≤ N1) (g2 : N1 < 6 * D) (g3 : 0 ≤ N2) (g4 : N2 < 6 * D) : isFinite (thF h1 h2) = true ∧ Flt.toInt truncOf (thF h1 h2) = th := by
  have a2 := ap_to (S' := 1125899906842624 * (D * 6144)) (v' := N1 * 1152921504606846976) (e' := 16384) a (by exact linz [] [_] (.r (.m 6 (.v 0)) 1152921504606846976) (.m 1125899906842624 (.r (.v 0) 6144)) .n (by kernel_rfl)) rfl (by decide)
  have b2 := ap_to (S' := 1125899906842624 * (D * 6144)) (v' := N2 * 1152921504606846976) (e' := 16384) b (by exact linz [] [_] (.r (.m 6 (.v 0)) 1152921504606846976) (.m 1125899906842624 (.r (.v 0) 6144)) .n (by kernel_rfl)) rfl (by decide)
  have s := ap_sub b2 a2 (by exact Int.not_le.mp (fun u9 => lin [] [_] (.L 1 (.r (.v 0) 6144) (.i 0) (.L 6144 (.i 1) (.v 0) .n)) (by kernel_rfl) u9 hD)) (by exact Int.not_lt.mp (fun u9 => lin [] [_, _, _] (.L 1 (.a (.m 7 (.m 1125899906842624 (.r (.v 0) 6144))) (.i 1)) (.a (.s (.r (.v 1) 1152921504606846976) (.r (.v 2) 1152921504606846976)) (.i (16384 + 16384))) (.L 41505174165846491136 (.i 1) (.v 0) (.L 1152921504606846976 (.i 0) (.v 2) (.L 1152921504606846976 (.a (.v 1) (.i 1)) (.m 6 (.v 0)) .n)))) (by kernel_rfl) u9 hD g1 g4)) (by exact Int.not_lt.mp (fun u9 => lin [] [_, _, _] (.L 1 (.a (.m 7 (.m 1125899906842624 (.r (.v 0) 6144))) (.i 1)) (.a (.g (.s (.r (.v 1) 1152921504606846976) (.r (.v 2) 1152921504606846976))) (.i (16384 + 16384))) (.L 41505174165846491136 (.i 1) (.v 0) (.L 1152921504606846976 (.a (.v 2) (.i 1)) (.m 6 (.v 0)) (.L 1152921504606846976 (.i 0) (.v 1) .n)))) (by kernel_rfl) u9 hD g2 g3))
  have s2 := ap_to (S' := 6 * D * 1152921504606846976) (v' := (2 * D * th + 6 * D * j) * 1152921504606846976) (e' := 131072) s (by exact linz [] [_] (.m 1125899906842624 (.r (.v 0) 6144)) (.r (.m 6 (.v 0)) 1152921504606846976) .n (by kernel_rfl)) (by rw [← hn]; exact linz [] [_, _] (.s (.r (.v 0) 1152921504606846976) (.r (.v 1) 1152921504606846976)) (.r (.s (.v 0) (.v 1)) 1152921504606846976) .n (by kernel_rfl)) (by exact Int.not_lt.mp (fun u9 => lin [] [_] (.L 1 (.a (.i 131072) (.i 1)) (.a (.i (16384 + 16384)) (.r (.v 0) 6144)) (.L 6144 (.v 0) (.i 16) .n)) (by kernel_rfl) u9 hD2))
  obtain ⟨T', hT, hw⟩ := vM_ap s2 hD hD2 (by rcases ht with rfl | rfl <;> (first | exact Int.not_lt.mp (fun u9 => lin [] [_] (.L 1 (.a (.r (.m 2 (.v 0)) 1) (.i 1)) (.i 0) (.L 2 (.i 1) (.v 0) .n)) (by kernel_rfl) u9 hD) | exact Int.not_lt.mp (fun u9 => lin [] [_] (.L 1 (.a (.r (.m 2 (.v 0)) 2) (.i 1)) (.i 0) (.L 4 (.i 1) (.v 0) .n)) (by kernel_rfl) u9 hD))) (by rcases ht with rfl | rfl <;> (first | exact Int.not_le.mp (fun u9 => lin [] [_] (.L 1 (.m 6 (.v 0)) (.r (.m 2 (.v 0)) 1) (.L 4 (.i 1) (.v 0) .n)) (by kernel_rfl) u9 hD) | exact Int.not_le.mp (fun u9 => lin [] [_] (.L 1 (.m 6 (.v 0)) (.r (.m 2 (.v 0)) 2) (.L 2 (.i 1) (.v 0) .n)) (by kernel_rfl) u9 hD))) (by decide) (by decide)
  have hT' : T' = 2 * D * th := by rcases ht with rfl | rfl <;> (first | exact Or.elim hT (fun q0 => linz [] [_, _] (.v 1) (.r (.m 2 (.v 0)) 1) (.E (-1) (.v 1) (.r (.m 2 (.v 0)) 1) .n) (by kernel_rfl) q0) (fun q0 => linz [] [_, _] (.v 1) (.r (.m 2 (.v 0)) 1) (.E (-2) (.r (.m 2 (.v 0)) 1) (.i 0) (.E (-1) (.v 1) (.m 6 (.v 0)) .n)) (by kernel_rfl) q0.1 q0.2) | exact Or.elim hT (fun q0 => linz [] [_, _] (.v 1) (.r (.m 2 (.v 0)) 2) (.E (-1) (.v 1) (.r (.m 2 (.v 0)) 2) .n) (by kernel_rfl) q0) (fun q0 => Int.le_antisymm (Int.not_lt.mp (fun u9 => lin [] [_, _] (.L 2 (.a (.r (.m 2 (.v 0)) 2) (.i 1)) (.v 1) (.E 1 (.r (.m 2 (.v 0)) 2) (.i 0) (.E 2 (.v 1) (.m 6 (.v 0)) .n))) (by kernel_rfl) u9 q0.1 q0.2)) (Int.not_lt.mp (fun u9 => lin [] [_, _] (.L 2 (.a (.v 1) (.i 1)) (.r (.m 2 (.v 0)) 2) (.E (-1) (.r (.m 2 (.v 0)) 2) (.i 0) (.E (-2) (.v 1) (.m 6 (.v 0)) .n))) (by kernel_rfl) u9 q0.1 q0.2))))
  subst hT'
  have w2 := ap_to (S' := 6 * 1152921504606846976 * D) (v' := 2 * th * 1152921504606846976 * D) (e' := 393216 * D) hw (by exact linz [] [_] (.r (.m 6 (.v 0)) 1152921504606846976) (.m (6 * 1152921504606846976) (.v 0)) .n (by kernel_rfl)) (by rcases ht with rfl | rfl <;> (first | exact linz [] [_] (.r (.r (.m 2 (.v 0)) 1) 1152921504606846976) (.m ((2 * 1) * 1152921504606846976) (.v 0)) .n (by kernel_rfl) | exact linz [] [_] (.r (.r (.m 2 (.v 0)) 2) 1152921504606846976) (.m ((2 * 2) * 1152921504606846976) (.v 0)) .n (by kernel_rfl))) (by exact Int.not_lt.mp (fun u9 => lin [] [_] (.L 1 (.a (.m 393216 (.v 0)) (.i 1)) (.i (131072 + 262144)) (.L 393216 (.i 1) (.v 0) .n)) (by kernel_rfl) u9 hD))
  have w3 := ap_cancel (by exact Int.not_le.mp (fun u9 => lin [] [_] (.L 1 (.v 0) (.i 0) (.L 1 (.i 1) (.v 0) .n)) (by kernel_rfl) u9 hD)) w2
  have w4 := ap_mul (k := 7083549724304467820544) three.1 three.2 w3 (by decide) (by decide) (by decide) (by decide) (by rcases ht with rfl | rfl <;> (first | exact Int.not_lt.mp (fun u9 => lin [] [] (.L 1 (.a (.i (7 * ((6 * 1152921504606846976) * 1152921504606846976))) (.i 1)) (.i (3458764513820540928 * (((2 * 1) * 1152921504606846976) + 393216))) .n) (by kernel_rfl) u9) | exact Int.not_lt.mp (fun u9 => lin [] [] (.L 1 (.a (.i (7 * ((6 * 1152921504606846976) * 1152921504606846976))) (.i 1)) (.i (3458764513820540928 * (((2 * 2) * 1152921504606846976) + 393216))) .n) (by kernel_rfl) u9))) (by rcases ht with rfl | rfl <;> (first | exact Int.not_lt.mp (fun u9 => lin [] [] (.L 1 (.a (.i (7 * ((6 * 1152921504606846976) * 1152921504606846976))) (.i 1)) (.i (3458764513820540928 * ((-((2 * 1) * 1152921504606846976)) + 393216))) .n) (by kernel_rfl) u9) | exact Int.not_lt.mp (fun u9 => lin [] [] (.L 1 (.a (.i (7 * ((6 * 1152921504606846976) * 1152921504606846976))) (.i 1)) (.i (3458764513820540928 * ((-((2 * 2) * 1152921504606846976)) + 393216))) .n) (by kernel_rfl) u9)))
  have w5 := ap_to (S' := 1125899906842624 * 7083549724304467820544) (v' := 6 * th * 1329227995784915872903807060280344576) (e' := 1367125096790762289364992) w4 (by decide) (by rcases ht with rfl | rfl <;> rfl) (by decide)
  have hh : Ap (1125899906842624 * 7083549724304467820544) 4602678819172646912 (3 * 1329227995784915872903807060280344576) 0 := by
    have q := half.2
    exact ⟨half.1, by rw [show (1125899906842624 * 7083549724304467820544 : Int) = 2 * (3 * 1329227995784915872903807060280344576) by decide, ← Int.mul_assoc, q]; exact Int.not_lt.mp (fun u9 => lin [] [_] (.L 1 (.a (.m 0 (.v 0)) (.i 1)) (.s (.r (.v 0) (3 * 1329227995784915872903807060280344576)) (.m (3 * 1329227995784915872903807060280344576) (.v 0))) .n) (by kernel_rfl) u9), by rw [show (1125899906842624 * 7083549724304467820544 : Int) = 2 * (3 * 1329227995784915872903807060280344576) by decide, ← Int.mul_assoc, q]; exact Int.not_lt.mp (fun u9 => lin [] [_] (.L 1 (.a (.m 0 (.v 0)) (.i 1)) (.s (.m (3 * 1329227995784915872903807060280344576) (.v 0)) (.r (.v 0) (3 * 1329227995784915872903807060280344576))) .n) (by kernel_rfl) u9)⟩
  have w6 := ap_add w5 hh (by decide) (by rcases ht with rfl | rfl <;> (first | exact Int.not_lt.mp (fun u9 => lin [] [] (.L 1 (.a (.i (7 * (1125899906842624 * 7083549724304467820544))) (.i 1)) (.i ((((6 * 1) * 1329227995784915872903807060280344576) + (3 * 1329227995784915872903807060280344576)) + (1367125096790762289364992 + 0))) .n) (by kernel_rfl) u9) | exact Int.not_lt.mp (fun u9 => lin [] [] (.L 1 (.a (.i (7 * (1125899906842624 * 7083549724304467820544))) (.i 1)) (.i ((((6 * 2) * 1329227995784915872903807060280344576) + (3 * 1329227995784915872903807060280344576)) + (1367125096790762289364992 + 0))) .n) (by kernel_rfl) u9))) (by rcases ht with rfl | rfl <;> (first | exact Int.not_lt.mp (fun u9 => lin [] [] (.L 1 (.a (.i (7 * (1125899906842624 * 7083549724304467820544))) (.i 1)) (.i ((-(((6 * 1) * 1329227995784915872903807060280344576) + (3 * 1329227995784915872903807060280344576))) + (1367125096790762289364992 + 0))) .n) (by kernel_rfl) u9) | exact Int.not_lt.mp (fun u9 => lin [] [] (.L 1 (.a (.i (7 * (1125899906842624 * 7083549724304467820544))) (.i 1)) (.i ((-(((6 * 2) * 1329227995784915872903807060280344576) + (3 * 1329227995784915872903807060280344576))) + (1367125096790762289364992 + 0))) .n) (by kernel_rfl) u9)))
  have hP := PP_pos
  have u := w6.up
  have d := w6.dn
  have hS : (0 : Int) < 1125899906842624 * 7083549724304467820544 := by decide
  refine ⟨?_, ?_⟩
  · obtain ⟨p, q, t, hd⟩ := w6.fn
    unfold thF isFinite
    rw [hd]
  · have e : th = ((th.toNat : Nat) : Int) := by exact Or.elim ht (fun q0 => linz [_] [_] (.v 0) (.z (.v 0)) (.E 1 (.z (.v 0)) (.v 0) .n) (by kernel_rfl) (Int.toNat_of_nonneg (Int.not_lt.mp (fun u9 => lin [] [_] (.L 1 (.a (.v 0) (.i 1)) (.i 0) (.E (-1) (.v 0) (.i 1) .n)) (by kernel_rfl) u9 q0)))) (fun q0 => linz [_] [_] (.v 0) (.z (.v 0)) (.E 1 (.z (.v 0)) (.v 0) .n) (by kernel_rfl) (Int.toNat_of_nonneg (Int.not_lt.mp (fun u9 => lin [] [_] (.L 1 (.a (.v 0) (.i 1)) (.i 0) (.E (-1) (.v 0) (.i 2) .n)) (by kernel_rfl) u9 q0))))
    have l1 : th * PP * (1125899906842624 * 7083549724304467820544) ≤ val (thF h1 h2) * (1125899906842624 * 7083549724304467820544) := by
      have : (th * (1125899906842624 * 7083549724304467820544)) * PP ≤ (6 * th * 1329227995784915872903807060280344576 + 3 * 1329227995784915872903807060280344576 - (1367125096790762289364992 + 0 + 7083549724304467820544)) * PP := Int.mul_le_mul_of_nonneg_right (by rcases ht with rfl | rfl <;> decide) (Int.le_of_lt hP)
      rw [Int.sub_mul] at this
      rw [show th * PP * (1125899906842624 * 7083549724304467820544) = th * (1125899906842624 * 7083549724304467820544) * PP by ac_rfl]
      unfold thF
      lia
    have l2 : val (thF h1 h2) * (1125899906842624 * 7083549724304467820544) < (th + 1) * PP * (1125899906842624 * 7083549724304467820544) := by
      have : (6 * th * 1329227995784915872903807060280344576 + 3 * 1329227995784915872903807060280344576 + (1367125096790762289364992 + 0 + 7083549724304467820544)) * PP < ((th + 1) * (1125899906842624 * 7083549724304467820544)) * PP := Int.mul_lt_mul_of_pos_right (by rcases ht with rfl | rfl <;> decide) hP
      rw [Int.add_mul] at this
      rw [show (th + 1) * PP * (1125899906842624 * 7083549724304467820544) = (th + 1) * (1125899906842624 * 7083549724304467820544) * PP by ac_rfl]
      unfold thF
      lia
    rw [e]
    refine toInt_of w6.fn ?_ ?_
    · rw [← e]; exact Int.le_of_mul_le_mul_right l1 hS
    · rw [← e]; exact Int.lt_of_mul_lt_mul_right l2 (Int.le_of_lt hS)
theorem th_ok {x y z : Nat} (hx : x ≤ 16) (hy : y ≤ 16) (hz : z ≤ 16) (hD : mnN x y z < mxN x y z) :
    (isFinite (thF (hueF (d16 (x : Int)) (d16 (y : Int)) (d16 (z : Int))) (hueF (d16 (z : Int)) (d16 (x : Int)) (d16 (y : Int)))) = true ∧ Flt.toInt truncOf (thF (hueF (d16 (x : Int)) (d16 (y : Int)) (d16 (z : Int))) (hueF (d16 (z : Int)) (d16 (x : Int)) (d16 (y : Int)))) = 1) ∧
    (isFinite (thF (hueF (d16 (x : Int)) (d16 (y : Int)) (d16 (z : Int))) (hueF (d16 (y : Int)) (d16 (z : Int)) (d16 (x : Int)))) = true ∧ Flt.toInt truncOf (thF (hueF (d16 (x : Int)) (d16 (y : Int)) (d16 (z : Int))) (hueF (d16 (y : Int)) (d16 (z : Int)) (d16 (x : Int)))) = 2) := by
  have r1 := mx_rot x y z
  have r2 := mx_rot z x y
  have hM : mxN x y z ≤ 16 := by rcases (mx_facts x y z).2.2.2 with h | h | h <;> rw [← h] <;> assumption
  have h1 := hue_ap hx hy hz hD
  have h2 := hue_ap hz hx hy (by rw [r1.1, r1.2]; exact hD)
  have h3 := hue_ap hy hz hx (by rw [r2.1, r2.2, r1.1, r1.2]; exact hD)
  have n1 := hueN_rot hD
  have n2 := hueN_rot (x := z) (y := x) (z := y) (by rw [r1.1, r1.2]; exact hD)
  have l1 := hueN_lt hD
  have l2 := hueN_lt (x := z) (y := x) (z := y) (by rw [r1.1, r1.2]; exact hD)
  have l3 := hueN_lt (x := y) (y := z) (z := x) (by rw [r2.1, r2.2, r1.1, r1.2]; exact hD)
  rw [r2.1, r2.2, r1.1, r1.2] at h3 l3
  rw [r1.1, r1.2] at h2 n2 l2
  have hb : 1 ≤ mxN x y z - mnN x y z ∧ mxN x y z - mnN x y z ≤ 16 := by exact ⟨Nat.not_lt.mp (fun u9 => lin [_, _] [] (.l 6 (.a (.v 1) (.c 1)) (.c 1) (.l 1 (.a (.v 0) (.c 1)) (.m 6 (.v 1)) .n)) (by kernel_rfl) u9 l1), Nat.not_lt.mp (fun u9 => lin [_, _] [] (.l 1 (.a (.c 16) (.c 1)) (.v 1) (.l 1 (.v 0) (.c 16) (.l 1 (.v 1) (.v 0) .n))) (by kernel_rfl) u9 hM (Nat.sub_le _ _))⟩
  generalize mxN x y z - mnN x y z = D at *
  refine ⟨?_, ?_⟩
  · rcases n1 with n1 | n1
    · exact th_of (j := 0) h1 h2 (by exact Int.not_lt.mp (fun u9 => lin [_] [] (.L 1 (.a (.z (.v 0)) (.i 1)) (.i 1) (.l 1 (.c 1) (.v 0) .n)) (by kernel_rfl) u9 hb.1)) (by exact Int.not_lt.mp (fun u9 => lin [_] [] (.L 1 (.a (.i 16) (.i 1)) (.z (.v 0)) (.l 1 (.v 0) (.c 16) .n)) (by kernel_rfl) u9 hb.2)) (.inl rfl) (by exact linz [_, _, _] [] (.s (.z (.v 0)) (.z (.v 1))) (.a (.r (.m 2 (.z (.v 2))) 1) (.r (.m 6 (.z (.v 2))) 0)) (.E (-1) (.z (.v 0)) (.a (.z (.v 1)) (.m 2 (.z (.v 2)))) .n) (by kernel_rfl) n1) (by exact Int.not_lt.mp (fun u9 => lin [_] [] (.L 1 (.a (.z (.v 0)) (.i 1)) (.i 0) .n) (by kernel_rfl) u9)) (by exact Int.not_le.mp (fun u9 => lin [_, _, _] [] (.L 1 (.m 6 (.z (.v 1))) (.z (.v 2)) (.l 1 (.a (.v 0) (.c 1)) (.m 6 (.v 1)) (.E (-1) (.z (.v 0)) (.a (.z (.v 2)) (.m 2 (.z (.v 1)))) .n))) (by kernel_rfl) u9 l2 n1)) (by exact Int.not_lt.mp (fun u9 => lin [_] [] (.L 1 (.a (.z (.v 0)) (.i 1)) (.i 0) .n) (by kernel_rfl) u9)) (by exact Int.not_le.mp (fun u9 => lin [_, _] [] (.L 1 (.m 6 (.z (.v 1))) (.z (.v 0)) (.l 1 (.a (.v 0) (.c 1)) (.m 6 (.v 1)) .n)) (by kernel_rfl) u9 l2))
    · exact th_of (j := -1) h1 h2 (by exact Int.not_lt.mp (fun u9 => lin [_] [] (.L 1 (.a (.z (.v 0)) (.i 1)) (.i 1) (.l 1 (.c 1) (.v 0) .n)) (by kernel_rfl) u9 hb.1)) (by exact Int.not_lt.mp (fun u9 => lin [_] [] (.L 1 (.a (.i 16) (.i 1)) (.z (.v 0)) (.l 1 (.v 0) (.c 16) .n)) (by kernel_rfl) u9 hb.2)) (.inl rfl) (by exact linz [_, _, _] [] (.s (.z (.v 0)) (.z (.v 1))) (.a (.r (.m 2 (.z (.v 2))) 1) (.r (.m 6 (.z (.v 2))) (-1))) (.E (-1) (.z (.v 0)) (.s (.a (.z (.v 1)) (.m 2 (.z (.v 2)))) (.m 6 (.z (.v 2)))) .n) (by kernel_rfl) n1) (by exact Int.not_lt.mp (fun u9 => lin [_] [] (.L 1 (.a (.z (.v 0)) (.i 1)) (.i 0) .n) (by kernel_rfl) u9)) (by exact Int.not_le.mp (fun u9 => lin [_, _] [] (.L 1 (.m 6 (.z (.v 1))) (.z (.v 0)) (.l 1 (.a (.v 0) (.c 1)) (.m 6 (.v 1)) .n)) (by kernel_rfl) u9 l1)) (by exact Int.not_lt.mp (fun u9 => lin [_] [] (.L 1 (.a (.z (.v 0)) (.i 1)) (.i 0) .n) (by kernel_rfl) u9)) (by exact Int.not_le.mp (fun u9 => lin [_, _, _] [] (.L 1 (.m 6 (.z (.v 1))) (.z (.v 2)) (.l 1 (.a (.v 0) (.c 1)) (.m 6 (.v 1)) (.E 1 (.z (.v 2)) (.s (.a (.z (.v 0)) (.m 2 (.z (.v 1)))) (.m 6 (.z (.v 1)))) .n))) (by kernel_rfl) u9 l1 n1))
  · by_cases h : hueN x y z + 4 * D < 6 * D
    · exact th_of (j := 0) h1 h3 (by exact Int.not_lt.mp (fun u9 => lin [_] [] (.L 1 (.a (.z (.v 0)) (.i 1)) (.i 1) (.l 1 (.c 1) (.v 0) .n)) (by kernel_rfl) u9 hb.1)) (by exact Int.not_lt.mp (fun u9 => lin [_] [] (.L 1 (.a (.i 16) (.i 1)) (.z (.v 0)) (.l 1 (.v 0) (.c 16) .n)) (by kernel_rfl) u9 hb.2)) (.inr rfl) (by exact Or.elim n1 (fun q0 => Or.elim n2 (fun q1 => linz [_, _, _, _] [] (.s (.z (.v 3)) (.z (.v 1))) (.a (.r (.m 2 (.z (.v 0))) 2) (.r (.m 6 (.z (.v 0))) 0)) (.E (-1) (.z (.v 2)) (.a (.z (.v 1)) (.m 2 (.z (.v 0)))) (.E (-1) (.z (.v 3)) (.a (.z (.v 2)) (.m 2 (.z (.v 0)))) .n)) (by kernel_rfl) q0 q1) (fun q1 => Int.le_antisymm (Int.not_lt.mp (fun u9 => lin [_, _, _, _] [] (.L 0 (.a (.a (.r (.m 2 (.z (.v 0))) 2) (.r (.m 6 (.z (.v 0))) 0)) (.i 1)) (.s (.z (.v 3)) (.z (.v 1))) (.l 1 (.a (.a (.v 1) (.m 4 (.v 0))) (.c 1)) (.m 6 (.v 0)) (.E 1 (.z (.v 2)) (.a (.z (.v 1)) (.m 2 (.z (.v 0)))) (.E 1 (.z (.v 3)) (.s (.a (.z (.v 2)) (.m 2 (.z (.v 0)))) (.m 6 (.z (.v 0)))) .n)))) (by kernel_rfl) u9 h q0 q1)) (Int.not_lt.mp (fun u9 => lin [_, _, _, _] [] (.L 0 (.a (.s (.z (.v 3)) (.z (.v 1))) (.i 1)) (.a (.r (.m 2 (.z (.v 0))) 2) (.r (.m 6 (.z (.v 0))) 0)) (.l 1 (.a (.a (.v 1) (.m 4 (.v 0))) (.c 1)) (.m 6 (.v 0)) (.E 1 (.z (.v 2)) (.a (.z (.v 1)) (.m 2 (.z (.v 0)))) (.E 1 (.z (.v 3)) (.s (.a (.z (.v 2)) (.m 2 (.z (.v 0)))) (.m 6 (.z (.v 0)))) .n)))) (by kernel_rfl) u9 h q0 q1)))) (fun q0 => Int.le_antisymm (Int.not_lt.mp (fun u9 => lin [_, _, _, _] [] (.L 0 (.a (.a (.r (.m 2 (.z (.v 0))) 2) (.r (.m 6 (.z (.v 0))) 0)) (.i 1)) (.s (.z (.v 3)) (.z (.v 1))) (.l 2 (.c 1) (.v 0) (.l 1 (.a (.a (.v 1) (.m 4 (.v 0))) (.c 1)) (.m 6 (.v 0)) (.E 1 (.z (.v 2)) (.s (.a (.z (.v 1)) (.m 2 (.z (.v 0)))) (.m 6 (.z (.v 0)))) .n)))) (by kernel_rfl) u9 hb.1 h q0)) (Int.not_lt.mp (fun u9 => lin [_, _, _, _] [] (.L 0 (.a (.s (.z (.v 3)) (.z (.v 1))) (.i 1)) (.a (.r (.m 2 (.z (.v 0))) 2) (.r (.m 6 (.z (.v 0))) 0)) (.l 2 (.c 1) (.v 0) (.l 1 (.a (.a (.v 1) (.m 4 (.v 0))) (.c 1)) (.m 6 (.v 0)) (.E 1 (.z (.v 2)) (.s (.a (.z (.v 1)) (.m 2 (.z (.v 0)))) (.m 6 (.z (.v 0)))) .n)))) (by kernel_rfl) u9 hb.1 h q0)))) (by exact Int.not_lt.mp (fun u9 => lin [_] [] (.L 1 (.a (.z (.v 0)) (.i 1)) (.i 0) .n) (by kernel_rfl) u9)) (by exact Int.not_le.mp (fun u9 => lin [_, _] [] (.L 1 (.m 6 (.z (.v 0))) (.z (.v 1)) (.l 4 (.c 1) (.v 0) (.l 1 (.a (.a (.v 1) (.m 4 (.v 0))) (.c 1)) (.m 6 (.v 0)) .n))) (by kernel_rfl) u9 hb.1 h)) (by exact Int.not_lt.mp (fun u9 => lin [_] [] (.L 1 (.a (.z (.v 0)) (.i 1)) (.i 0) .n) (by kernel_rfl) u9)) (by exact Int.not_le.mp (fun u9 => lin [_, _] [] (.L 1 (.m 6 (.z (.v 1))) (.z (.v 0)) (.l 1 (.a (.v 0) (.c 1)) (.m 6 (.v 1)) .n)) (by kernel_rfl) u9 l3))
    · exact th_of (j := -1) h1 h3 (by exact Int.not_lt.mp (fun u9 => lin [_] [] (.L 1 (.a (.z (.v 0)) (.i 1)) (.i 1) (.l 1 (.c 1) (.v 0) .n)) (by kernel_rfl) u9 hb.1)) (by exact Int.not_lt.mp (fun u9 => lin [_] [] (.L 1 (.a (.i 16) (.i 1)) (.z (.v 0)) (.l 1 (.v 0) (.c 16) .n)) (by kernel_rfl) u9 hb.2)) (.inr rfl) (by exact Or.elim n1 (fun q0 => Or.elim n2 (fun q1 => Int.le_antisymm (Int.not_lt.mp (fun u9 => lin [_, _, _, _] [] (.L 0 (.a (.a (.r (.m 2 (.z (.v 1))) 2) (.r (.m 6 (.z (.v 1))) (-1))) (.i 1)) (.s (.z (.v 2)) (.z (.v 0))) (.l 1 (.a (.v 2) (.c 1)) (.m 6 (.v 1)) (.l 1 (.m 6 (.v 1)) (.a (.v 0) (.m 4 (.v 1))) (.E (-1) (.z (.v 3)) (.a (.z (.v 0)) (.m 2 (.z (.v 1)))) (.E (-1) (.z (.v 2)) (.a (.z (.v 3)) (.m 2 (.z (.v 1)))) .n))))) (by kernel_rfl) u9 l3 (Nat.not_lt.mp h) q0 q1)) (Int.not_lt.mp (fun u9 => lin [_, _, _, _] [] (.L 0 (.a (.s (.z (.v 2)) (.z (.v 0))) (.i 1)) (.a (.r (.m 2 (.z (.v 1))) 2) (.r (.m 6 (.z (.v 1))) (-1))) (.l 1 (.a (.v 2) (.c 1)) (.m 6 (.v 1)) (.l 1 (.m 6 (.v 1)) (.a (.v 0) (.m 4 (.v 1))) (.E (-1) (.z (.v 3)) (.a (.z (.v 0)) (.m 2 (.z (.v 1)))) (.E (-1) (.z (.v 2)) (.a (.z (.v 3)) (.m 2 (.z (.v 1)))) .n))))) (by kernel_rfl) u9 l3 (Nat.not_lt.mp h) q0 q1))) (fun q1 => linz [_, _, _, _] [] (.s (.z (.v 2)) (.z (.v 0))) (.a (.r (.m 2 (.z (.v 1))) 2) (.r (.m 6 (.z (.v 1))) (-1))) (.E (-1) (.z (.v 3)) (.a (.z (.v 0)) (.m 2 (.z (.v 1)))) (.E (-1) (.z (.v 2)) (.s (.a (.z (.v 3)) (.m 2 (.z (.v 1)))) (.m 6 (.z (.v 1)))) .n)) (by kernel_rfl) q0 q1)) (fun q0 => Or.elim n2 (fun q2 => linz [_, _, _, _] [] (.s (.z (.v 2)) (.z (.v 0))) (.a (.r (.m 2 (.z (.v 1))) 2) (.r (.m 6 (.z (.v 1))) (-1))) (.E (-1) (.z (.v 3)) (.s (.a (.z (.v 0)) (.m 2 (.z (.v 1)))) (.m 6 (.z (.v 1)))) (.E (-1) (.z (.v 2)) (.a (.z (.v 3)) (.m 2 (.z (.v 1)))) .n)) (by kernel_rfl) q0 q2) (fun q2 => Int.le_antisymm (Int.not_lt.mp (fun u9 => lin [_, _, _, _] [] (.L 0 (.a (.a (.r (.m 2 (.z (.v 1))) 2) (.r (.m 6 (.z (.v 1))) (-1))) (.i 1)) (.s (.z (.v 2)) (.z (.v 0))) (.l 1 (.a (.v 0) (.c 1)) (.m 6 (.v 1)) (.E 1 (.z (.v 3)) (.s (.a (.z (.v 0)) (.m 2 (.z (.v 1)))) (.m 6 (.z (.v 1)))) (.E 1 (.z (.v 2)) (.s (.a (.z (.v 3)) (.m 2 (.z (.v 1)))) (.m 6 (.z (.v 1)))) .n)))) (by kernel_rfl) u9 l1 q0 q2)) (Int.not_lt.mp (fun u9 => lin [_, _, _, _] [] (.L 1 (.a (.s (.z (.v 2)) (.z (.v 0))) (.i 1)) (.a (.r (.m 2 (.z (.v 1))) 2) (.r (.m 6 (.z (.v 1))) (-1))) (.l 3 (.a (.v 0) (.c 1)) (.m 6 (.v 1)) (.E 2 (.z (.v 3)) (.s (.a (.z (.v 0)) (.m 2 (.z (.v 1)))) (.m 6 (.z (.v 1)))) (.E 2 (.z (.v 2)) (.s (.a (.z (.v 3)) (.m 2 (.z (.v 1)))) (.m 6 (.z (.v 1)))) .n)))) (by kernel_rfl) u9 l1 q0 q2))))) (by exact Int.not_lt.mp (fun u9 => lin [_] [] (.L 1 (.a (.z (.v 0)) (.i 1)) (.i 0) .n) (by kernel_rfl) u9)) (by exact Int.not_le.mp (fun u9 => lin [_, _] [] (.L 1 (.m 6 (.z (.v 1))) (.z (.v 0)) (.l 1 (.a (.v 0) (.c 1)) (.m 6 (.v 1)) .n)) (by kernel_rfl) u9 l1)) (by exact Int.not_lt.mp (fun u9 => lin [_] [] (.L 1 (.a (.z (.v 0)) (.i 1)) (.i 0) .n) (by kernel_rfl) u9)) (by exact Int.not_le.mp (fun u9 => lin [_, _] [] (.L 1 (.m 6 (.z (.v 1))) (.z (.v 0)) (.l 1 (.a (.v 0) (.c 1)) (.m 6 (.v 1)) .n)) (by kernel_rfl) u9 l3))
end
section
section
variable {prog : Program} {w : World} {A : Around} {E : Value → Shared → Prop} {s : Shared} {h₀ : Heap} {L a b : Addr} {news : Led} {l l2 : List Value} {n k : Nat} {Q : Value → Shared → Prop}
theorem eq_lens (N : News h₀ L s.heap news) (hm : (a, oLst l n) ∈ news) (hm2 : (b, oLst l2 k) ∈ news) (hz : l.length ≠ l2.length) (hu : A.units + 64 < cLine) (h : Q (.bool false) s) : wpAny (model prog w) A (compareOp .Eq (.ref a) (.ref b)) Q E s := by
  have z := (N _ hm).1
  have z2 := (N _ hm2).1
  show wpAny _ A (richCompare .Eq (.ref a) (.ref b)) Q E s
  exact PySem.richCompare_meets_room (T := "list") ⟨_, z, rfl⟩ ⟨_, z2, rfl⟩ PySem.F.slot_list_eq PySem.F.entry_list_eq (PySem.F.args_list_eq_2 _ _) (PySem.SeqAt.list_eq_lengthsAt a b l.toArray l2.toArray n k none none #[] #[] (by simpa using hz)) ⟨z, z2, (show Value.bool false ≠ Value.notImplemented ∧ Q (.bool false) s from ⟨fun e => (by cases e), h⟩)⟩ (by exact Nat.not_le.mp (fun u9 => lin [_, _] [] (.l 1 (.v 1) (.v 0) (.l 1 (.a (.a (.v 0) (.c 64)) (.c 1)) (.v 1) .n)) (by kernel_rfl) u9 hu))
/-- the kinds' lamps, read as data -/
noncomputable def lampD (r g b k : Int) : PyData := .tuple [.int (c1 r g b k), .int (c2 r g b k), .int (c3 r g b k)]
theorem reads_lamps {h : Heap} {r g b : Int} : ∀ {vs : List Value} {ks : List Int}, Paired (fun v k => ∃ a t0 t1 t2 n, v = .ref a ∧ h.get? a = some (oTup #[.int (c1 r g b k) t0, .int (c2 r g b k) t1, .int (c3 r g b k) t2] n)) vs ks → ∃ as, ReadsAll h vs (ks.map (lampD r g b)) as := by
  intro vs ks p
  induction p with
  | nil => exact ⟨[], .nil⟩
  | cons x _ ih =>
    obtain ⟨a, t0, t1, t2, n, rfl, ho⟩ := x
    obtain ⟨as, ih⟩ := ih
    exact ⟨_, .cons (reads_t3 ho) ih⟩
theorem eqv_lamps (r g b : Int) : ∀ ks : List Int, PyData.eqvAll (ks.map (lampD r g b)) (ks.map (lampD r g b)) = true
  | [] => rfl
  | k :: ks => by
    show (PyData.eqv (lampD r g b k) (lampD r g b k) && PyData.eqvAll (ks.map (lampD r g b)) (ks.map (lampD r g b))) = true
    rw [eqv_lamps r g b ks]
    unfold lampD
    rw [eqv_t3]
    simp
theorem reads_ints {h : Heap} {vs : List Value} {ns : List Int} (p : IntsAre vs ns) : ReadsAll h vs (ns.map PyData.int) (List.replicate ns.length []).flatten := by
  induction p with
  | nil => exact .nil
  | cons i t _ ih => exact .cons (.int i t) ih
theorem lay_lamps (r g b : Int) : ∀ ks : List Int, PyData.canLayAll0 (ks.map (lampD r g b)) = true ∧ PyData.depthAll (ks.map (lampD r g b)) ≤ 1
  | [] => ⟨rfl, by simp [PyData.depthAll]⟩
  | k :: ks => by
    obtain ⟨h1, h2⟩ := lay_lamps r g b ks
    refine ⟨?_, ?_⟩
    · simp [PyData.canLayAll0, PyData.canLay0, lampD, h1]
    · simp [PyData.depthAll, PyData.depth, lampD, h2]
theorem shaped_lamps (r g b : Int) (ks : List Int) : PySem.SeqAt.shaped (.list (ks.map (lampD r g b))) = true := by
  obtain ⟨h1, h2⟩ := lay_lamps r g b ks
  unfold PySem.SeqAt.shaped
  rw [Bool.and_eq_true]
  refine ⟨h1, decide_eq_true ?_⟩
  show PyData.depthAll _ + 1 ≤ 64
  exact Nat.not_lt.mp (fun u9 => lin [_] [] (.l 1 (.a (.c 64) (.c 1)) (.a (.v 0) (.c 1)) (.l 1 (.v 0) (.c 1) .n)) (by kernel_rfl) u9 h2)
theorem eq_lamps {r g b0 : Int} {vs vs' : List Value} {ks : List Int} (N : News h₀ L s.heap news) (hm : (a, oLst vs n) ∈ news) (hm2 : (b, oLst vs' k) ∈ news)
    (p : Paired (fun v k => ∃ a t0 t1 t2 n, v = Value.ref a ∧ (a, oTup #[.int (c1 r g b0 k) t0, .int (c2 r g b0 k) t1, .int (c3 r g b0 k) t2] n) ∈ news) vs ks)
    (p' : Paired (fun v k => ∃ a t0 t1 t2 n, v = Value.ref a ∧ (a, oTup #[.int (c1 r g b0 k) t0, .int (c2 r g b0 k) t1, .int (c3 r g b0 k) t2] n) ∈ news) vs' ks)
    (hu : A.units + 64 < cLine) (h : Q (.bool true) s) : wpAny (model prog w) A (compareOp .Eq (.ref a) (.ref b)) Q E s := by
  have up : ∀ v k, (∃ a t0 t1 t2 n, v = Value.ref a ∧ (a, oTup #[.int (c1 r g b0 k) t0, .int (c2 r g b0 k) t1, .int (c3 r g b0 k) t2] n) ∈ news) → ∃ a t0 t1 t2 n, v = Value.ref a ∧ s.heap.get? a = some (oTup #[.int (c1 r g b0 k) t0, .int (c2 r g b0 k) t1, .int (c3 r g b0 k) t2] n) := by
    rintro v k ⟨a, t0, t1, t2, n, e, m⟩
    exact ⟨a, t0, t1, t2, n, e, (N _ m).1⟩
  obtain ⟨as, ra⟩ := reads_lamps (paired_mono up p)
  obtain ⟨bs, rb⟩ := reads_lamps (paired_mono up p')
  refine eq_dataH (reads_list_at (N _ hm).1 rfl rfl ra) (reads_list_at (N _ hm2).1 rfl rfl rb) (shaped_lamps ..) (shaped_lamps ..) hu ?_
  show Q (.bool (PyData.eqvAll _ _)) s
  rw [eqv_lamps]
  exact h
theorem eq_intL {vs vs' : List Value} {ns : List Int} (N : News h₀ L s.heap news) (hm : (a, oLst vs n) ∈ news) (hm2 : (b, oLst vs' k) ∈ news) (p : IntsAre vs ns) (p' : IntsAre vs' ns)
    (hu : A.units + 64 < cLine) (h : Q (.bool true) s) : wpAny (model prog w) A (compareOp .Eq (.ref a) (.ref b)) Q E s := by
  refine eq_dataH (reads_list_at (N _ hm).1 rfl rfl (reads_ints p)) (reads_list_at (N _ hm2).1 rfl rfl (reads_ints p')) (ke_shaped_ints _) (ke_shaped_ints _) hu ?_
  show Q (.bool (PyData.eqvAll _ _)) s
  rw [ked_eqvAll, decide_eq_true rfl]
  exact h
theorem sum_t3 {a0 a1 a2 : Int} {t0 t1 t2 : Tok} {m : Str → Option Value} (hh : A.handled = none) (F : Fr h₀ L s.heap m) (N : News h₀ L s.heap news) (hm : (a, oTup #[.int a0 t0, .int a1 t1, .int a2 t2] n) ∈ news)
    (h : ∀ h' tk t', Fr h₀ L h' m → News h₀ L h' news → Q (.int (a0 + a1 + a2) t') { s with heap := h', toks := tk }) : wpAny (model prog w) A (call (.builtin "sum") [.ref a]) Q E s := by
  have hl : s.heap.IsTuple a #[.int a0 t0, .int a1 t1, .int a2 t2] := ⟨_, (N _ hm).1, rfl, n, rfl⟩
  have hi : IntsAre [.int a0 t0, .int a1 t1, .int a2 t2] [a0, a1, a2] := .cons _ _ (.cons _ _ (.cons _ _ .nil))
  obtain ⟨xs, hx⟩ := hi.allInts.items
  have hn : numsOf (#[.int a0 t0, .int a1 t1, .int a2 t2] : Array Value).toList = [a0, a1, a2] := hi.numsOf
  rw [show (#[.int a0 t0, .int a1 t1, .int a2 t2] : Array Value) = [Value.int a0 t0, .int a1 t1, .int a2 t2].toArray from rfl, hx] at hl hn
  rw [nums_intItems] at hn
  refine ktm_sumG hh hl fun h' tk t' hk => ?_
  have := h h' tk t' (F.keeps hk) (N.grown hk)
  rw [preSum_eq, List.take_of_length_le (by simp), hn]
  rw [show ([a0, a1, a2] : List Int).sum = a0 + a1 + a2 by simp only [List.sum_cons, List.sum_nil]; exact linz [] [_, _, _] (.a (.v 0) (.a (.v 1) (.a (.v 2) (.i 0)))) (.a (.a (.v 0) (.v 1)) (.v 2)) .n (by kernel_rfl)]
  exact this
/-- the last item of a list of kinds -/
theorem back_kind {T0 T1 T2 : Addr} {value slice : PySem.Expr} {ls : List Int} {u : Tok} (N : News h₀ L s.heap news) (hm : (a, oLst (ls.map (kindRef T0 T1 T2)) n) ∈ news) (h1 : 0 < ls.length) (hz : ls.length ≤ 4096)
    (h : Q (.ref (kA T0 T1 T2 (ls.getD (ls.length - 1) 0))) s)
    (hs : subscripted slice false (.ref a) (.int (-1) u) = operate [.ref a, .int (-1) u] (getItem (.ref a) (.int (-1) u)) := by with_unfolding_all rfl) (hg : ∀ r, letTemporaryGo value (.ref a) r = pure () := by intro _; with_unfolding_all rfl) :
    wpAny (model prog w) A (subscriptTail value slice (.ref a) (.int (-1) u)) Q E s := by
  refine get_back N hm (by decide) (by rw [List.length_map]; exact Int.not_lt.mp (fun u9 => lin [_] [] (.L 1 (.a (.i (-1)) (.i 1)) (.g (.z (.v 0))) (.l 1 (.a (.c 0) (.c 1)) (.v 0) .n)) (by kernel_rfl) u9 h1)) (x := .ref (kA T0 T1 T2 (ls.getD (ls.length - 1) 0))) ?_ (by rw [List.length_map]; exact Nat.not_le.mp (fun u9 => lin [_] [] (.l 1 (.c (2 ^ 60)) (.v 0) (.l 1 (.v 0) (.c 4096) .n)) (by kernel_rfl) u9 hz)) h hs hg
  rw [List.length_map, List.getElem?_map, show ((-1 : Int) + (ls.length : Int)).toNat = ls.length - 1 by exact linn [_, _, _] [] (.v 1) (.v 2) (.E (-1) (.z (.v 1)) (.a (.i (-1)) (.z (.v 0))) (.e 1 (.a (.v 2) (.c 1)) (.v 0) .n)) (by kernel_rfl) (Int.toNat_of_nonneg (Int.not_lt.mp (fun u9 => lin [_] [] (.L 1 (.a (.a (.i (-1)) (.z (.v 0))) (.i 1)) (.i 0) (.l 1 (.a (.c 0) (.c 1)) (.v 0) .n)) (by kernel_rfl) u9 h1))) (Nat.sub_add_cancel (Nat.not_lt.mp (fun u9 => lin [_] [] (.l 1 (.a (.v 0) (.c 1)) (.c 1) (.l 1 (.a (.c 0) (.c 1)) (.v 0) .n)) (by kernel_rfl) u9 h1))), List.getD_eq_getElem?_getD, List.getElem?_eq_getElem (by exact Nat.not_le.mp (fun u9 => lin [_, _] [] (.l 1 (.v 0) (.v 1) (.e 1 (.a (.v 1) (.c 1)) (.v 0) .n)) (by kernel_rfl) u9 (Nat.sub_add_cancel (Nat.not_lt.mp (fun u9 => lin [_] [] (.l 1 (.a (.v 0) (.c 1)) (.c 1) (.l 1 (.a (.c 0) (.c 1)) (.v 0) .n)) (by kernel_rfl) u9 h1)))))]
  rfl
theorem paired_kinds {T0 T1 T2 : Addr} {r g b : Int} {news : Led} (H : Lmp T0 T1 T2 r g b news) : ∀ ks : List Int, (∀ k ∈ ks, Tri k) → Paired (fun v k => ∃ a t0 t1 t2 n, v = Value.ref a ∧ (a, oTup #[.int (c1 r g b k) t0, .int (c2 r g b k) t1, .int (c3 r g b k) t2] n) ∈ news) (ks.map (kindRef T0 T1 T2)) ks
  | [], _ => .nil
  | k :: ks, h => by
    obtain ⟨x, y, z, n, m⟩ := H.mem (h k (.head _))
    exact .cons ⟨_, x, y, z, n, rfl, m⟩ (paired_kinds H ks fun k hk => h k (.tail _ hk))
end
end
section
local macro_rules | `(tactic| walk_at "MINE cl") => `(tactic| first | rfl | exact cl_ff (by assumption) (by assumption) | exact cl_tf (by assumption) (by assumption) | exact cl_ft (by assumption) (by assumption) | exact cl_tt (by assumption) (by assumption))
local macro_rules | `(tactic| walk_at "MINE mem") => `(tactic| k_dflt (first | exact mh | ((fail_if_success with_reducible refine' mt _); first | assumption | (refine List.mem_append_left _ ?_; walk_at "MINE mem") | (refine List.mem_append_right _ ?_; walk_at "MINE mem")) | (refine' mt ?_; walk_at "MINE mem")))
local macro_rules | `(tactic| walk_at "MINE sub") => `(tactic| first | exact sub_i | (refine' sub_c ?_; walk_at "MINE sub"))
local macro_rules | `(tactic| walk_at "MINE al") => `(tactic| first | assumption | exact r1 (by assumption) | exact r2 (by assumption) | exact r3 (by assumption) | exact r4 (by assumption) | exact r5 (by assumption) | exact r6 (by assumption) | exact r7 (by assumption) | exact r8 (by assumption) | exact r9 (by assumption) | exact r10 (by assumption) | exact r11 (by assumption) | exact r12 (by assumption) | exact r13 (by assumption) | exact r14 (by assumption) | exact r15 (by assumption))
local macro_rules | `(tactic| walk_at "MINE lt") => `(tactic| first | assumption | exact lt_i (by walk_at "MINE al"))
local macro_rules | `(tactic| walk_at "MINE la") => `(tactic| ((fail_if_success fail_if_success omega); lia))
local macro_rules | `(tactic| walk_at "MINE ar") => `(tactic| k_dflt (first | assumption | ((with_reducible first | refine' Int.fmod_nonneg_of_pos _ ?_ | refine' Int.fmod_lt_of_pos _ ?_); walk_at "MINE la") | walk_at "MINE la" | ((simp only [List.size_toArray, List.length_append, List.length_cons, List.length_nil, List.length_drop, List.length_take, List.length_set, List.length_eraseIdx, List.length_map]); walk_at "MINE la") | decide))
local macro_rules | `(tactic| ktr_room) => `(tactic| k_dflt (first | (refine' rm0 ?h; (case h => assumption)) | (refine' rm1 ?h ?e; (case h => assumption); (case e => decide)) | (refine' rm2 ?h ?e; (case h => assumption); (case e => decide)) | fail))
local macro_rules | `(tactic| ktr_units) => `(tactic| k_dflt (first | ((first | refine' un3 ?h ?e | refine' un4 ?h ?e); (case h => assumption); (case e => decide)) | fail))
local macro_rules | `(tactic| walk_at "MINE s0") => `(tactic| k_dflt k_asm)
local macro_rules | `(tactic| walk_at "MINE o2") => `(tactic| (intros; (try k_unfold); (try k_sweep); (try dsimp only)))
local macro_rules | `(tactic| walk_at "MINE sd") => `(tactic| first
  | ((fail_if_success fail_if_success with_reducible first | refine' gF _ | refine' gN _ | refine' gI _ | refine' gNs _ | refine' gP _ | refine' gT _); k_asm)
  | ((fail_if_success fail_if_success with_reducible refine' gS _); with_unfolding_all rfl)
  | ((fail_if_success fail_if_success with_reducible refine' gE _); first | exact rfl | assumption | decide)
  | ((fail_if_success fail_if_success with_reducible refine' gX _); intro _; with_unfolding_all rfl)
  | ((fail_if_success fail_if_success with_reducible refine' gM _); walk_at "MINE mem")
  | ((fail_if_success fail_if_success with_reducible refine' gL _); walk_at "MINE lt")
  | ((fail_if_success fail_if_success with_reducible refine' gU _); ktr_units))
local macro_rules | `(tactic| walk_at "MINE se") => `(tactic| first
  | ((fail_if_success fail_if_success with_reducible first | refine' gNL _ | refine' gNS _ | refine' gIL _ | refine' gIS _); walk_at "MINE ar")
  | ((fail_if_success fail_if_success with_reducible refine' gB _); walk_at "MINE bes"))
local macro_rules | `(tactic| walk_at "MINE on") => `(tactic| (intros; (show (_ : Prop)); (fail_if_success with_reducible first | refine' gM _ | refine' gE _ | refine' gNL _ | refine' gNS _ | refine' gIL _ | refine' gIS _ | refine' gF _ | refine' gN _ | refine' gB _ | refine' gI _ | refine' gP _ | refine' gT _); (try k_unfold); (try k_sweep); (try dsimp only)))
local macro_rules | `(tactic| walk_at "MINE go") => `(tactic| (k_dflt ((all_goals (try ((fail_if_success fail_if_success with_reducible first | refine' gF _ | refine' gN _); k_asm))); (all_goals first | (fail_if_success with_reducible refine' gM _) | walk_at "MINE mem"); (all_goals (try walk_at "MINE sd")); (all_goals (fail_if_success (with_reducible first | refine' gE _ | refine' gI _))); (all_goals (try walk_at "MINE se"))); all_goals walk_at "MINE on"))
local macro_rules | `(tactic| walk_at "MINE cs") => `(tactic| (k_dflt ((all_goals (first | walk_at "MINE sd" | ((show (_ : Prop)); assumption) | skip)); (all_goals (try walk_at "MINE se")); done)))
local macro_rules | `(tactic| walk_at "call builtin:max") => `(tactic| (k_here; (with_reducible show wpAny _ _ (call (Value.builtin "max") [Value.float _ _, _, _]) _ _ _); (with_unfolding_all refine' max3_any ?_ ?_ ?_ ?_); walk_at "MINE go"))
local macro_rules | `(tactic| walk_at "call builtin:min") => `(tactic| (k_here; (with_reducible show wpAny _ _ (call (Value.builtin "min") [Value.float _ _, _, _]) _ _ _); (with_unfolding_all refine' min3_any ?_ ?_ ?_ ?_); walk_at "MINE go"))
local macro_rules | `(tactic| walk_at "subscriptTail") => `(tactic| (k_here; (with_reducible refine tup_at (by walk_at "MINE s0") (by walk_at "MINE mem") (by k_dflt exact rfl) (by k_dflt exact rfl) (by k_dflt exact rfl) ?_); walk_at "MINE o2"))
local macro_rules | `(tactic| walk_at "call ref") => `(tactic| (k_here; k_dflt (refine' go3 ?F ?N ?T ?c ?t ?B ?X ?hk ?hd ?hu ?_; (case F => k_asm); (case N => k_asm); (case T => k_asm); (case c => walk_at "MINE go3"); (case t => first | exact t3f | exact t3i); (case B => k_asm); (case X => k_asm); (case hk => first | exact rfl | assumption); (case hd => ktr_room); (case hu => ktr_units)); walk_at "MINE on"))
local macro_rules | `(tactic| walk_at "call ref") => `(tactic| (k_here; k_dflt (refine' goV ?F ?N ?T ?c ?t ?B ?X ?hk ?hd ?hu ?_; (case F => k_asm); (case N => k_asm); (case T => k_asm); (case c => walk_at "MINE goV"); (case t => first | exact v1f | exact v1g | exact v1c); (case B => k_asm); (case X => k_asm); (case hk => first | exact rfl | assumption); (case hd => ktr_room); (case hu => ktr_units)); walk_at "MINE on"))
local macro_rules | `(tactic| walk_at "storeName") => `(tactic| (k_here; k_dflt (refine' storeL ?F ?N ?a ?b ?_; (case a => rfl); (case b => rfl); (case F => k_asm); (case N => k_asm); k_whole); intro h' tk' M' F' N'; (try k_sweep)))
section
theorem c_yiq (w : World) (p : Program) (loose : List Str) (mean : ExcName → Option Value) (mg mb : Str → Option Value) (x y z : UInt64) (t u v : Tok) (news : Led) :
    CT w p loose mean mg mb 51 [.float x t, .float y u, .float z v] 1 news (RetF3 (yY x y z) (yI x y z) (yQ x y z)) := by
  intro dp un gd cn cs a ccd cl outer A₀ base h₀ L m s Q E B F X N T hk hdp hu hret
  refine wpAny_call ?_
  k_dflt (refine' code_def (binds := [(Str.ofString "r", Value.float x t), (Str.ofString "g", Value.float y u), (Str.ofString "b", Value.float z v)]) ?k1 ?k2 ?k3 ?k4 ?k5 ?kA ?kF ?kK ?k6 ?k7 ?k8 ?k9 ?kB ?_ ?c2 ?c3 ?c4 ?c5; (case kA => exact rfl); (case kF => exact rfl); (case kK => assumption); (case k1 => k_asm); (case k2 => k_asm); (case k3 => k_asm); (case k4 => k_asm); (case k5 => k_asm); (case k6 => k_is); (case k7 => k_is); (case k8 => ktr_room); (case k9 => exact BindsTo.of_eq rfl); (case c5 => decide); (case kB => exact locs rfl); (case c2 => exact rfl); (case c3 => exact rfl); (case c4 => exact rfl); k_whole; intro g' L' h' FG' F' N' B' X' T'; (try dsimp only); (try k_lift B'); (try k_fold))
  k_steps
  all_goals (refine hret _ [_] _ _ (by assumption) (by assumption) (ord1 (by assumption)) ⟨_, _, _, _, _, _, _, _, rfl, rfl, ?_, ?_, ?_⟩)
  all_goals (walk_at "MINE cl")

def loF (x : UInt64) : UInt64 := if (Float64.cmp x 0 == some Ordering.lt) = true then 0 else x
def hiF (x : UInt64) : UInt64 := if (Float64.cmp x 4607182418800017408 == some Ordering.gt) = true then 4607182418800017408 else x
theorem lo_t {x : UInt64} (h : (Float64.cmp x 0 == some Ordering.lt) = true) : loF x = 0 := if_pos h
theorem lo_f {x : UInt64} (h : (Float64.cmp x 0 == some Ordering.lt) = false) : loF x = x := if_neg (by rw [h]; exact Bool.false_ne_true)
theorem hi_t {x : UInt64} (h : (Float64.cmp x 4607182418800017408 == some Ordering.gt) = true) : hiF x = 4607182418800017408 := if_pos h
theorem hi_f {x : UInt64} (h : (Float64.cmp x 4607182418800017408 == some Ordering.gt) = false) : hiF x = x := if_neg (by rw [h]; exact Bool.false_ne_true)
theorem c_rgb (w : World) (p : Program) (loose : List Str) (mean : ExcName → Option Value) (mg mb : Str → Option Value) (x y z : UInt64) (t u v : Tok) (news : Led) :
    CT w p loose mean mg mb 58 [.float x t, .float y u, .float z v] 1 news (RetF3 (clampF (rR x y z)) (clampF (rG x y z)) (clampF (rB x y z))) := by
  intro dp un gd cn cs a ccd cl outer A₀ base h₀ L m s Q E B F X N T hk hdp hu hret
  refine wpAny_call ?_
  k_dflt (refine' code_def (binds := [(Str.ofString "y", Value.float x t), (Str.ofString "i", Value.float y u), (Str.ofString "q", Value.float z v)]) ?k1 ?k2 ?k3 ?k4 ?k5 ?kA ?kF ?kK ?k6 ?k7 ?k8 ?k9 ?kB ?_ ?c2 ?c3 ?c4 ?c5; (case kA => exact rfl); (case kF => exact rfl); (case kK => assumption); (case k1 => k_asm); (case k2 => k_asm); (case k3 => k_asm); (case k4 => k_asm); (case k5 => k_asm); (case k6 => k_is); (case k7 => k_is); (case k8 => ktr_room); (case k9 => exact BindsTo.of_eq rfl); (case c5 => decide); (case kB => exact locs rfl); (case c2 => exact rfl); (case c3 => exact rfl); (case c4 => exact rfl); k_whole; intro g' L' h' FG' F' N' B' X' T'; (try dsimp only); (try k_lift B'); (try k_fold))
  repeat' ((fail_if_success (with_reducible show wpAny _ _ (exec (PySem.Stmt.For _ _ _ _ _) _) _ _ _)); (fail_if_success (with_reducible show wpAny _ _ (exec (PySem.Stmt.While _ _ _ _) _) _ _ _)); (fail_if_success (with_reducible show wpAny _ _ (pyIter _) _ _ _)); (fail_if_success (with_reducible show wpAny _ _ (exec (PySem.Stmt.If _ _ _ _) _) _ _ _)); (first | (k_unfold; (try dsimp only)) | (k_end; kc_close) | walk1 | (dsimp only; walk1) | (leave1; walk_say "STEP leave1"; (try dsimp only))))
  rename Fr g' L' _ _ => F₁
  rename News g' L' _ _ => N₁
  rename_i hh t9 M9
  obtain ⟨M, e1, e2, e3, F₁⟩ : ∃ M : Str → Option Value, (∃ t, M (Str.ofString "r") = some (.float (rR x y z) t)) ∧ (∃ t, M (Str.ofString "g") = some (.float (rG x y z) t)) ∧ (∃ t, M (Str.ofString "b") = some (.float (rB x y z) t)) ∧ Fr g' L' hh M := ⟨_, ⟨_, rfl⟩, ⟨_, rfl⟩, ⟨_, rfl⟩, F₁⟩
  obtain ⟨t1, e1⟩ := e1
  obtain ⟨t2, e2⟩ := e2
  obtain ⟨t3, e3⟩ := e3
  refine cut_stmt (Mid := fun f s' => Cut (f = .next ∧ ∃ h tk M, s' = { s with heap := h, toks := tk } ∧ (∃ t, M (Str.ofString "r") = some (.float (loF (rR x y z)) t)) ∧ (∃ t, M (Str.ofString "g") = some (.float (rG x y z) t)) ∧ (∃ t, M (Str.ofString "b") = some (.float (rB x y z) t)) ∧ Fr g' L' h M ∧ News g' L' h news)) ?_ ?_
  · first | refine expo3 F₁ e1 e2 e3 ?_ | refine expi3 F₁ e1 e2 e3 ?_
    clear F₁
    intro M9 F₁
    repeat' ((fail_if_success (with_reducible show wpAny _ _ (exec (PySem.Stmt.For _ _ _ _ _) _) _ _ _)); (fail_if_success (with_reducible show wpAny _ _ (exec (PySem.Stmt.While _ _ _ _) _) _ _ _)); (fail_if_success (with_reducible show wpAny _ _ (pyIter _) _ _ _)); (first | (k_unfold; (try dsimp only)) | (k_end; kc_close) | walk1 | (dsimp only; walk1) | (leave1; walk_say "STEP leave1"; (try dsimp only))))
    · rename Fr g' L' _ _ => F₂
      rename News g' L' _ _ => N₂
      refine ⟨rfl, _, _, _, rfl, ?_, ?_, ?_, F₂, N₂⟩
      · rw [lo_t (x := rR x y z) (by assumption)]; exact ⟨_, rfl⟩
      · exact ⟨_, rfl⟩
      · exact ⟨_, rfl⟩
    · rename Fr g' L' _ _ => F₂
      rename News g' L' _ _ => N₂
      refine ⟨rfl, _, _, _, rfl, ?_, ?_, ?_, F₂, N₂⟩
      · rw [lo_f (x := rR x y z) (by assumption)]; exact ⟨_, rfl⟩
      · exact ⟨_, rfl⟩
      · exact ⟨_, rfl⟩
  clear e1 e2 e3 F₁ N₁
  rintro f s' ⟨⟨rfl, h', tk', M', rfl, ⟨t1, e1⟩, ⟨t2, e2⟩, ⟨t3, e3⟩, F₂, N₂⟩⟩
  rename Fr g' L' _ _ => F₁
  rename News g' L' _ _ => N₁
  dsimp only
  (try k_fold)
  repeat' ((fail_if_success (with_reducible show wpAny _ _ (exec (PySem.Stmt.For _ _ _ _ _) _) _ _ _)); (fail_if_success (with_reducible show wpAny _ _ (exec (PySem.Stmt.While _ _ _ _) _) _ _ _)); (fail_if_success (with_reducible show wpAny _ _ (pyIter _) _ _ _)); (fail_if_success (with_reducible show wpAny _ _ (exec (PySem.Stmt.If _ _ _ _) _) _ _ _)); (first | (k_unfold; (try dsimp only)) | (k_end; kc_close) | walk1 | (dsimp only; walk1) | (leave1; walk_say "STEP leave1"; (try dsimp only))))
  refine cut_stmt (Mid := fun f s' => Cut (f = .next ∧ ∃ h tk M, s' = { s with heap := h, toks := tk } ∧ (∃ t, M (Str.ofString "r") = some (.float (loF (rR x y z)) t)) ∧ (∃ t, M (Str.ofString "g") = some (.float (loF (rG x y z)) t)) ∧ (∃ t, M (Str.ofString "b") = some (.float (rB x y z) t)) ∧ Fr g' L' h M ∧ News g' L' h news)) ?_ ?_
  · first | refine expo3 F₁ e1 e2 e3 ?_ | refine expi3 F₁ e1 e2 e3 ?_
    clear F₁
    intro M9 F₁
    repeat' ((fail_if_success (with_reducible show wpAny _ _ (exec (PySem.Stmt.For _ _ _ _ _) _) _ _ _)); (fail_if_success (with_reducible show wpAny _ _ (exec (PySem.Stmt.While _ _ _ _) _) _ _ _)); (fail_if_success (with_reducible show wpAny _ _ (pyIter _) _ _ _)); (first | (k_unfold; (try dsimp only)) | (k_end; kc_close) | walk1 | (dsimp only; walk1) | (leave1; walk_say "STEP leave1"; (try dsimp only))))
    · rename Fr g' L' _ _ => F₂
      rename News g' L' _ _ => N₂
      refine ⟨rfl, _, _, _, rfl, ?_, ?_, ?_, F₂, N₂⟩
      · exact ⟨_, rfl⟩
      · rw [lo_t (x := rG x y z) (by assumption)]; exact ⟨_, rfl⟩
      · exact ⟨_, rfl⟩
    · rename Fr g' L' _ _ => F₂
      rename News g' L' _ _ => N₂
      refine ⟨rfl, _, _, _, rfl, ?_, ?_, ?_, F₂, N₂⟩
      · exact ⟨_, rfl⟩
      · rw [lo_f (x := rG x y z) (by assumption)]; exact ⟨_, rfl⟩
      · exact ⟨_, rfl⟩
  clear e1 e2 e3 F₁ N₁
  rintro f s' ⟨⟨rfl, h', tk', M', rfl, ⟨t1, e1⟩, ⟨t2, e2⟩, ⟨t3, e3⟩, F₂, N₂⟩⟩
  rename Fr g' L' _ _ => F₁
  rename News g' L' _ _ => N₁
  dsimp only
  (try k_fold)
  repeat' ((fail_if_success (with_reducible show wpAny _ _ (exec (PySem.Stmt.For _ _ _ _ _) _) _ _ _)); (fail_if_success (with_reducible show wpAny _ _ (exec (PySem.Stmt.While _ _ _ _) _) _ _ _)); (fail_if_success (with_reducible show wpAny _ _ (pyIter _) _ _ _)); (fail_if_success (with_reducible show wpAny _ _ (exec (PySem.Stmt.If _ _ _ _) _) _ _ _)); (first | (k_unfold; (try dsimp only)) | (k_end; kc_close) | walk1 | (dsimp only; walk1) | (leave1; walk_say "STEP leave1"; (try dsimp only))))
  refine cut_stmt (Mid := fun f s' => Cut (f = .next ∧ ∃ h tk M, s' = { s with heap := h, toks := tk } ∧ (∃ t, M (Str.ofString "r") = some (.float (loF (rR x y z)) t)) ∧ (∃ t, M (Str.ofString "g") = some (.float (loF (rG x y z)) t)) ∧ (∃ t, M (Str.ofString "b") = some (.float (loF (rB x y z)) t)) ∧ Fr g' L' h M ∧ News g' L' h news)) ?_ ?_
  · first | refine expo3 F₁ e1 e2 e3 ?_ | refine expi3 F₁ e1 e2 e3 ?_
    clear F₁
    intro M9 F₁
    repeat' ((fail_if_success (with_reducible show wpAny _ _ (exec (PySem.Stmt.For _ _ _ _ _) _) _ _ _)); (fail_if_success (with_reducible show wpAny _ _ (exec (PySem.Stmt.While _ _ _ _) _) _ _ _)); (fail_if_success (with_reducible show wpAny _ _ (pyIter _) _ _ _)); (first | (k_unfold; (try dsimp only)) | (k_end; kc_close) | walk1 | (dsimp only; walk1) | (leave1; walk_say "STEP leave1"; (try dsimp only))))
    · rename Fr g' L' _ _ => F₂
      rename News g' L' _ _ => N₂
      refine ⟨rfl, _, _, _, rfl, ?_, ?_, ?_, F₂, N₂⟩
      · exact ⟨_, rfl⟩
      · exact ⟨_, rfl⟩
      · rw [lo_t (x := rB x y z) (by assumption)]; exact ⟨_, rfl⟩
    · rename Fr g' L' _ _ => F₂
      rename News g' L' _ _ => N₂
      refine ⟨rfl, _, _, _, rfl, ?_, ?_, ?_, F₂, N₂⟩
      · exact ⟨_, rfl⟩
      · exact ⟨_, rfl⟩
      · rw [lo_f (x := rB x y z) (by assumption)]; exact ⟨_, rfl⟩
  clear e1 e2 e3 F₁ N₁
  rintro f s' ⟨⟨rfl, h', tk', M', rfl, ⟨t1, e1⟩, ⟨t2, e2⟩, ⟨t3, e3⟩, F₂, N₂⟩⟩
  rename Fr g' L' _ _ => F₁
  rename News g' L' _ _ => N₁
  dsimp only
  (try k_fold)
  repeat' ((fail_if_success (with_reducible show wpAny _ _ (exec (PySem.Stmt.For _ _ _ _ _) _) _ _ _)); (fail_if_success (with_reducible show wpAny _ _ (exec (PySem.Stmt.While _ _ _ _) _) _ _ _)); (fail_if_success (with_reducible show wpAny _ _ (pyIter _) _ _ _)); (fail_if_success (with_reducible show wpAny _ _ (exec (PySem.Stmt.If _ _ _ _) _) _ _ _)); (first | (k_unfold; (try dsimp only)) | (k_end; kc_close) | walk1 | (dsimp only; walk1) | (leave1; walk_say "STEP leave1"; (try dsimp only))))
  refine cut_stmt (Mid := fun f s' => Cut (f = .next ∧ ∃ h tk M, s' = { s with heap := h, toks := tk } ∧ (∃ t, M (Str.ofString "r") = some (.float (hiF (loF (rR x y z))) t)) ∧ (∃ t, M (Str.ofString "g") = some (.float (loF (rG x y z)) t)) ∧ (∃ t, M (Str.ofString "b") = some (.float (loF (rB x y z)) t)) ∧ Fr g' L' h M ∧ News g' L' h news)) ?_ ?_
  · first | refine expo3 F₁ e1 e2 e3 ?_ | refine expi3 F₁ e1 e2 e3 ?_
    clear F₁
    intro M9 F₁
    repeat' ((fail_if_success (with_reducible show wpAny _ _ (exec (PySem.Stmt.For _ _ _ _ _) _) _ _ _)); (fail_if_success (with_reducible show wpAny _ _ (exec (PySem.Stmt.While _ _ _ _) _) _ _ _)); (fail_if_success (with_reducible show wpAny _ _ (pyIter _) _ _ _)); (first | (k_unfold; (try dsimp only)) | (k_end; kc_close) | walk1 | (dsimp only; walk1) | (leave1; walk_say "STEP leave1"; (try dsimp only))))
    · rename Fr g' L' _ _ => F₂
      rename News g' L' _ _ => N₂
      refine ⟨rfl, _, _, _, rfl, ?_, ?_, ?_, F₂, N₂⟩
      · rw [hi_t (x := loF (rR x y z)) (by assumption)]; exact ⟨_, rfl⟩
      · exact ⟨_, rfl⟩
      · exact ⟨_, rfl⟩
    · rename Fr g' L' _ _ => F₂
      rename News g' L' _ _ => N₂
      refine ⟨rfl, _, _, _, rfl, ?_, ?_, ?_, F₂, N₂⟩
      · rw [hi_f (x := loF (rR x y z)) (by assumption)]; exact ⟨_, rfl⟩
      · exact ⟨_, rfl⟩
      · exact ⟨_, rfl⟩
  clear e1 e2 e3 F₁ N₁
  rintro f s' ⟨⟨rfl, h', tk', M', rfl, ⟨t1, e1⟩, ⟨t2, e2⟩, ⟨t3, e3⟩, F₂, N₂⟩⟩
  rename Fr g' L' _ _ => F₁
  rename News g' L' _ _ => N₁
  dsimp only
  (try k_fold)
  repeat' ((fail_if_success (with_reducible show wpAny _ _ (exec (PySem.Stmt.For _ _ _ _ _) _) _ _ _)); (fail_if_success (with_reducible show wpAny _ _ (exec (PySem.Stmt.While _ _ _ _) _) _ _ _)); (fail_if_success (with_reducible show wpAny _ _ (pyIter _) _ _ _)); (fail_if_success (with_reducible show wpAny _ _ (exec (PySem.Stmt.If _ _ _ _) _) _ _ _)); (first | (k_unfold; (try dsimp only)) | (k_end; kc_close) | walk1 | (dsimp only; walk1) | (leave1; walk_say "STEP leave1"; (try dsimp only))))
  refine cut_stmt (Mid := fun f s' => Cut (f = .next ∧ ∃ h tk M, s' = { s with heap := h, toks := tk } ∧ (∃ t, M (Str.ofString "r") = some (.float (hiF (loF (rR x y z))) t)) ∧ (∃ t, M (Str.ofString "g") = some (.float (hiF (loF (rG x y z))) t)) ∧ (∃ t, M (Str.ofString "b") = some (.float (loF (rB x y z)) t)) ∧ Fr g' L' h M ∧ News g' L' h news)) ?_ ?_
  · first | refine expo3 F₁ e1 e2 e3 ?_ | refine expi3 F₁ e1 e2 e3 ?_
    clear F₁
    intro M9 F₁
    repeat' ((fail_if_success (with_reducible show wpAny _ _ (exec (PySem.Stmt.For _ _ _ _ _) _) _ _ _)); (fail_if_success (with_reducible show wpAny _ _ (exec (PySem.Stmt.While _ _ _ _) _) _ _ _)); (fail_if_success (with_reducible show wpAny _ _ (pyIter _) _ _ _)); (first | (k_unfold; (try dsimp only)) | (k_end; kc_close) | walk1 | (dsimp only; walk1) | (leave1; walk_say "STEP leave1"; (try dsimp only))))
    · rename Fr g' L' _ _ => F₂
      rename News g' L' _ _ => N₂
      refine ⟨rfl, _, _, _, rfl, ?_, ?_, ?_, F₂, N₂⟩
      · exact ⟨_, rfl⟩
      · rw [hi_t (x := loF (rG x y z)) (by assumption)]; exact ⟨_, rfl⟩
      · exact ⟨_, rfl⟩
    · rename Fr g' L' _ _ => F₂
      rename News g' L' _ _ => N₂
      refine ⟨rfl, _, _, _, rfl, ?_, ?_, ?_, F₂, N₂⟩
      · exact ⟨_, rfl⟩
      · rw [hi_f (x := loF (rG x y z)) (by assumption)]; exact ⟨_, rfl⟩
      · exact ⟨_, rfl⟩
  clear e1 e2 e3 F₁ N₁
  rintro f s' ⟨⟨rfl, h', tk', M', rfl, ⟨t1, e1⟩, ⟨t2, e2⟩, ⟨t3, e3⟩, F₂, N₂⟩⟩
  rename Fr g' L' _ _ => F₁
  rename News g' L' _ _ => N₁
  dsimp only
  (try k_fold)
  repeat' ((fail_if_success (with_reducible show wpAny _ _ (exec (PySem.Stmt.For _ _ _ _ _) _) _ _ _)); (fail_if_success (with_reducible show wpAny _ _ (exec (PySem.Stmt.While _ _ _ _) _) _ _ _)); (fail_if_success (with_reducible show wpAny _ _ (pyIter _) _ _ _)); (fail_if_success (with_reducible show wpAny _ _ (exec (PySem.Stmt.If _ _ _ _) _) _ _ _)); (first | (k_unfold; (try dsimp only)) | (k_end; kc_close) | walk1 | (dsimp only; walk1) | (leave1; walk_say "STEP leave1"; (try dsimp only))))
  refine cut_stmt (Mid := fun f s' => Cut (f = .next ∧ ∃ h tk M, s' = { s with heap := h, toks := tk } ∧ (∃ t, M (Str.ofString "r") = some (.float (hiF (loF (rR x y z))) t)) ∧ (∃ t, M (Str.ofString "g") = some (.float (hiF (loF (rG x y z))) t)) ∧ (∃ t, M (Str.ofString "b") = some (.float (hiF (loF (rB x y z))) t)) ∧ Fr g' L' h M ∧ News g' L' h news)) ?_ ?_
  · first | refine expo3 F₁ e1 e2 e3 ?_ | refine expi3 F₁ e1 e2 e3 ?_
    clear F₁
    intro M9 F₁
    repeat' ((fail_if_success (with_reducible show wpAny _ _ (exec (PySem.Stmt.For _ _ _ _ _) _) _ _ _)); (fail_if_success (with_reducible show wpAny _ _ (exec (PySem.Stmt.While _ _ _ _) _) _ _ _)); (fail_if_success (with_reducible show wpAny _ _ (pyIter _) _ _ _)); (first | (k_unfold; (try dsimp only)) | (k_end; kc_close) | walk1 | (dsimp only; walk1) | (leave1; walk_say "STEP leave1"; (try dsimp only))))
    · rename Fr g' L' _ _ => F₂
      rename News g' L' _ _ => N₂
      refine ⟨rfl, _, _, _, rfl, ?_, ?_, ?_, F₂, N₂⟩
      · exact ⟨_, rfl⟩
      · exact ⟨_, rfl⟩
      · rw [hi_t (x := loF (rB x y z)) (by assumption)]; exact ⟨_, rfl⟩
    · rename Fr g' L' _ _ => F₂
      rename News g' L' _ _ => N₂
      refine ⟨rfl, _, _, _, rfl, ?_, ?_, ?_, F₂, N₂⟩
      · exact ⟨_, rfl⟩
      · exact ⟨_, rfl⟩
      · rw [hi_f (x := loF (rB x y z)) (by assumption)]; exact ⟨_, rfl⟩
  clear e1 e2 e3 F₁ N₁
  rintro f s' ⟨⟨rfl, h', tk', M', rfl, ⟨t1, e1⟩, ⟨t2, e2⟩, ⟨t3, e3⟩, F₂, N₂⟩⟩
  rename Fr g' L' _ _ => F₁
  rename News g' L' _ _ => N₁
  dsimp only
  (try k_fold)
  first | refine expo3 F₁ e1 e2 e3 ?_ | refine expi3 F₁ e1 e2 e3 ?_
  clear F₁
  intro M9 F₁
  repeat' ((fail_if_success (with_reducible show wpAny _ _ (exec (PySem.Stmt.For _ _ _ _ _) _) _ _ _)); (fail_if_success (with_reducible show wpAny _ _ (exec (PySem.Stmt.While _ _ _ _) _) _ _ _)); (fail_if_success (with_reducible show wpAny _ _ (pyIter _) _ _ _)); (first | (k_unfold; (try dsimp only)) | (k_end; kc_close) | walk1 | (dsimp only; walk1) | (leave1; walk_say "STEP leave1"; (try dsimp only))))
  refine hret _ [_] _ _ (by assumption) (by assumption) (ord1 (by assumption)) ⟨_, _, _, _, _, _, _, _, rfl, rfl, rfl, rfl, rfl⟩
end
section
theorem c_v (w : World) (p : Program) (loose : List Str) (mean : ExcName → Option Value) (mg mb : Str → Option Value) (x y z : UInt64) (t u v : Tok) (news : Led) :
    CT w p loose mean mg mb 79 [.float x t, .float y u, .float z v] 1 news (RetF (vF x y z)) := by
  intro dp un gd cn cs a ccd cl outer A₀ base h₀ L m s Q E B F X N T hk hdp hu hret
  refine wpAny_call ?_
  k_dflt (refine' code_def (binds := [(Str.ofString "m1", Value.float x t), (Str.ofString "m2", Value.float y u), (Str.ofString "hue", Value.float z v)]) ?k1 ?k2 ?k3 ?k4 ?k5 ?kA ?kF ?kK ?k6 ?k7 ?k8 ?k9 ?kB ?_ ?c2 ?c3 ?c4 ?c5; (case kA => exact rfl); (case kF => exact rfl); (case kK => assumption); (case k1 => k_asm); (case k2 => k_asm); (case k3 => k_asm); (case k4 => k_asm); (case k5 => k_asm); (case k6 => k_is); (case k7 => k_is); (case k8 => ktr_room); (case k9 => exact BindsTo.of_eq rfl); (case c5 => decide); (case kB => exact locs rfl); (case c2 => exact rfl); (case c3 => exact rfl); (case c4 => exact rfl); k_whole; intro g' L' h' FG' F' N' B' X' T'; (try dsimp only); (try k_lift B'); (try k_fold))
  k_steps
  all_goals (refine hret _ [] _ _ (by assumption) (by assumption) ord0 ⟨_, _, rfl, rfl, ?_⟩)
  all_goals (first | exact v_1 (by assumption) | exact v_3 (by assumption) (by assumption) (by assumption) | exact v_2 (by assumption) (by assumption) | exact v_4 (by assumption) (by assumption) (by assumption))
theorem c_hls (w : World) (p : Program) (loose : List Str) (mean : ExcName → Option Value) (mg mb : Str → Option Value) (x y z : UInt64) (t u v : Tok) (news : Led) (ok : OkC x y z) :
    CT w p loose mean mg mb 65 [.float x t, .float y u, .float z v] 1 news (RetF3 (hueF x y z) (lumF x y z) (satF x y z)) := by
  intro dp un gd cn cs a ccd cl outer A₀ base h₀ L m s Q E B F X N T hk hdp hu hret
  refine wpAny_call ?_
  k_dflt (refine' code_def (binds := [(Str.ofString "r", Value.float x t), (Str.ofString "g", Value.float y u), (Str.ofString "b", Value.float z v)]) ?k1 ?k2 ?k3 ?k4 ?k5 ?kA ?kF ?kK ?k6 ?k7 ?k8 ?k9 ?kB ?_ ?c2 ?c3 ?c4 ?c5; (case kA => exact rfl); (case kF => exact rfl); (case kK => assumption); (case k1 => k_asm); (case k2 => k_asm); (case k3 => k_asm); (case k4 => k_asm); (case k5 => k_asm); (case k6 => k_is); (case k7 => k_is); (case k8 => ktr_room); (case k9 => exact BindsTo.of_eq rfl); (case c5 => decide); (case kB => exact locs rfl); (case c2 => exact rfl); (case c3 => exact rfl); (case c4 => exact rfl); k_whole; intro g' L' h' FG' F' N' B' X' T'; (try dsimp only); (try k_lift B'); (try k_fold))
  k_steps
  all_goals (first
    | (exfalso; first | exact no_eq ok.ne (by assumption) | exact no_zero ok.z1 (by assumption) | exact no_zero ok.z2 (by assumption) | exact no_zero ok.z3 (by assumption))
    | (refine hret _ [_] _ _ (by assumption) (by assumption) (ord1 (by assumption)) ⟨_, _, _, _, _, _, _, _, rfl, rfl, ?_, ?_, ?_⟩))
  all_goals (first | rfl | exact hue_1 (by assumption) | exact hue_2 (by assumption) (by assumption) | exact hue_3 (by assumption) (by assumption) | exact sat_1 (by assumption) | exact sat_2 (by assumption))
theorem c_hsv (w : World) (p : Program) (loose : List Str) (mean : ExcName → Option Value) (mg mb : Str → Option Value) (x y z : UInt64) (t u v : Tok) (news : Led) (ok : OkC x y z) :
    CT w p loose mean mg mb 86 [.float x t, .float y u, .float z v] 1 news (RetF3 (hueF x y z) (Float64.div (Float64.sub (mx3 x y z) (mn3 x y z)) (mx3 x y z)) (mx3 x y z)) := by
  intro dp un gd cn cs a ccd cl outer A₀ base h₀ L m s Q E B F X N T hk hdp hu hret
  refine wpAny_call ?_
  k_dflt (refine' code_def (binds := [(Str.ofString "r", Value.float x t), (Str.ofString "g", Value.float y u), (Str.ofString "b", Value.float z v)]) ?k1 ?k2 ?k3 ?k4 ?k5 ?kA ?kF ?kK ?k6 ?k7 ?k8 ?k9 ?kB ?_ ?c2 ?c3 ?c4 ?c5; (case kA => exact rfl); (case kF => exact rfl); (case kK => assumption); (case k1 => k_asm); (case k2 => k_asm); (case k3 => k_asm); (case k4 => k_asm); (case k5 => k_asm); (case k6 => k_is); (case k7 => k_is); (case k8 => ktr_room); (case k9 => exact BindsTo.of_eq rfl); (case c5 => decide); (case kB => exact locs rfl); (case c2 => exact rfl); (case c3 => exact rfl); (case c4 => exact rfl); k_whole; intro g' L' h' FG' F' N' B' X' T'; (try dsimp only); (try k_lift B'); (try k_fold))
  k_steps
  all_goals (first
    | (exfalso; first | exact no_eq ok.ne (by assumption) | exact no_zero ok.z0 (by assumption) | exact no_zero ok.z2 (by assumption))
    | (refine hret _ [_] _ _ (by assumption) (by assumption) (ord1 (by assumption)) ⟨_, _, _, _, _, _, _, _, rfl, rfl, ?_, ?_, ?_⟩))
  all_goals (first | rfl | exact hue_1 (by assumption) | exact hue_2 (by assumption) (by assumption) | exact hue_3 (by assumption) (by assumption))
local macro_rules | `(tactic| walk_at "MINE goV") => `(tactic| first | ((with_reducible refine' c_v ..); walk_at "MINE cs"))

theorem c_rgb2 (w : World) (p : Program) (loose : List Str) (mean : ExcName → Option Value) (mg mb : Str → Option Value) (x y z : UInt64) (t u v : Tok) (news : Led) (ok : OkS z) :
    CT w p loose mean mg mb 72 [.float x t, .float y u, .float z v] 2 news (RetF3 (vF (m1F y z) (m2F y z) (Float64.add x 4599676419421066581)) (vF (m1F y z) (m2F y z) x) (vF (m1F y z) (m2F y z) (Float64.sub x 4599676419421066581))) := by
  intro dp un gd cn cs a ccd cl outer A₀ base h₀ L m s Q E B F X N T hk hdp hu hret
  refine wpAny_call ?_
  k_dflt (refine' code_def (binds := [(Str.ofString "h", Value.float x t), (Str.ofString "l", Value.float y u), (Str.ofString "s", Value.float z v)]) ?k1 ?k2 ?k3 ?k4 ?k5 ?kA ?kF ?kK ?k6 ?k7 ?k8 ?k9 ?kB ?_ ?c2 ?c3 ?c4 ?c5; (case kA => exact rfl); (case kF => exact rfl); (case kK => assumption); (case k1 => k_asm); (case k2 => k_asm); (case k3 => k_asm); (case k4 => k_asm); (case k5 => k_asm); (case k6 => k_is); (case k7 => k_is); (case k8 => ktr_room); (case k9 => exact BindsTo.of_eq rfl); (case c5 => decide); (case kB => exact locs rfl); (case c2 => exact rfl); (case c3 => exact rfl); (case c4 => exact rfl); k_whole; intro g' L' h' FG' F' N' B' X' T'; (try dsimp only); (try k_lift B'); (try k_fold))
  k_steps
  all_goals (first
    | (exfalso; exact no_eq ok.ne (by assumption))
    | (refine hret _ [_] _ _ (by assumption) (by assumption) (ord1 (by assumption)) ⟨_, _, _, _, _, _, _, _, rfl, rfl, ?_, ?_, ?_⟩))
  all_goals (first | (unfold m1F; rw [m2_1 (by assumption)]; done) | (unfold m1F; rw [m2_2 (by assumption)]; done))
end
section
theorem pat_at {w : World} {h : Heap} (X : (hd.heap_39 w.params).In h) : PatAt h 36 := by
  refine ⟨⟨_, _, _, _, _, X 36 _ (by k_is), rfl, rfl, rfl, ⟨_, rfl⟩, ⟨_, rfl⟩, ⟨35, rfl, X 35 _ (by k_is)⟩, rfl, ?_⟩⟩
  apply Array.toList_inj.mp
  simp only [Array.toList_map]
  rfl
theorem typeis_pat {w : World} {h₀ : Heap} {s : Shared} {L : Addr} {m : Str → Option Value} (X : (hd.heap_39 w.params).In h₀) (F : Fr h₀ L s.heap m) : s.TypeIs (.ref 36) "re.Pattern" := by
  obtain ⟨oP, fs, oC, its, n, h1, h2, _⟩ := ((pat_at X).mono F.keep).ex
  exact ⟨oP, h1, h2⟩
theorem nodict_pat {w : World} {h₀ : Heap} {s : Shared} {L : Addr} {m : Str → Option Value} (X : (hd.heap_39 w.params).In h₀) (F : Fr h₀ L s.heap m) : ∀ a, Value.ref 36 = .ref a → ∃ o, s.heap.get? a = some o ∧ o.dict = none := by
  intro a e
  cases e
  obtain ⟨oP, fs, oC, its, n, h1, h2, h3, _⟩ := ((pat_at X).mono F.keep).ex
  exact ⟨oP, h1, h3⟩
theorem ty_sub : typeOf (.builtin "re.Pattern.sub") = pure (.type "method_descriptor") := by kernel_rfl
theorem ty_count : typeOf (.builtin "bytes.count") = pure (.type "method_descriptor") := by kernel_rfl
local macro_rules | `(tactic| walk_at "getMethod") => `(tactic| (k_here; (with_reducible show wpAny _ _ (getMethod (Value.ref 36) _ _) _ _ _); (refine getMethod_builtin (typeis_pat (by k_asm) (by k_asm)) plain_rp slot_sub ty_sub (fun a e => nodict_pat (by k_asm) (by k_asm) a e) ?_); (try dsimp only)))
local macro_rules | `(tactic| walk_at "getMethod") => `(tactic| (k_here; (with_reducible show wpAny _ _ (getMethod (Value.bytes _ _) _ _) _ _ _); (refine getMethod_builtin (typeIs_bytes _ _ _) FB.plainAttrs_bytes slot_count ty_count (fun a e => nomatch e) ?_); (try dsimp only)))
local macro_rules | `(tactic| walk_at "call builtin:re.Pattern.sub") => `(tactic| (k_here; k_dflt (refine call_sub (by k_asm) (by k_asm) (pat_at (by k_asm)) (by assumption) (by assumption) ?_); walk_at "MINE on"))
local macro_rules | `(tactic| walk_at "call builtin:bytes.count") => `(tactic| (k_here; (refine call_count ?_); walk_at "MINE on"))

theorem c_paren (w : World) (p : Program) (loose : List Str) (mean : ExcName → Option Value) (mg mb : Str → Option Value) (ps : List Pce) (t u : Tok) (d : Int) (news : Led) (hz : ps.length ≤ 1000) (hzb : (bB ps).length ≤ 10000) :
    CT w p loose mean mg mb 44 [.bytes (bB ps).toArray t, .int d u] 2 news (fun r own => ∃ t', r = .int (d + ((bB (brk ps)).count 40 : Nat) - ((bB (brk ps)).count 41 : Nat)) t' ∧ own = []) := by
  intro dp un gd cn cs a ccd cl outer A₀ base h₀ L m s Q E B F X N T hk hdp hu hret
  refine wpAny_call ?_
  k_dflt (refine' code_def (binds := [(Str.ofString "data", Value.bytes (bB ps).toArray t), (Str.ofString "depth", Value.int d u)]) ?k1 ?k2 ?k3 ?k4 ?k5 ?kA ?kF ?kK ?k6 ?k7 ?k8 ?k9 ?kB ?_ ?c2 ?c3 ?c4 ?c5; (case kA => exact rfl); (case kF => exact rfl); (case kK => assumption); (case k1 => k_asm); (case k2 => k_asm); (case k3 => k_asm); (case k4 => k_asm); (case k5 => k_asm); (case k6 => k_is); (case k7 => k_is); (case k8 => ktr_room); (case k9 => exact binds_K (by k_in) rfl (by k_is) rfl rfl rfl); (case c5 => decide); (case kB => exact locs rfl); (case c2 => exact rfl); (case c3 => exact rfl); (case c4 => exact rfl); k_whole; intro g' L' h' FG' F' N' B' X' T'; (try dsimp only); (try k_lift B'); (try k_fold))
  repeat' ((fail_if_success (with_reducible show wpAny _ _ (exec (PySem.Stmt.For _ _ _ _ _) _) _ _ _)); (fail_if_success (with_reducible show wpAny _ _ (exec (PySem.Stmt.While _ _ _ _) _) _ _ _)); (fail_if_success (with_reducible show wpAny _ _ (pyIter _) _ _ _)); (first | (k_unfold; (try dsimp only)) | (k_end; kc_close) | walk1 | (dsimp only; walk1) | (leave1; walk_say "STEP leave1"; (try dsimp only))))

  all_goals exact hret _ [] _ _ (by assumption) (by assumption) ord0 ⟨_, rfl, rfl⟩
end
section
section
local macro_rules | `(tactic| walk_at "eval ListComp") => `(tactic| (k_here; (try k_fold); k_dflt ((refine' wpAny_ListComp_free (fun _ => true) (fun v y => ∃ x t n u, v = Value.float x t ∧ y = Value.int n u ∧ n = lampI x) ?c1 ?c2 ?c3 ?c4 ?c5 ?_ ?c6); (case c1 => exact closureFor_none (by decide)); (case c2 => decide); (case c3 => rfl); (case c4 => decide); (case c5 => rfl); (case c6 => (intro x; rfl)))))
theorem c_lamp (w : World) (p : Program) (loose : List Str) (mean : ExcName → Option Value) (mg mb : Str → Option Value) (x y z : UInt64) (t u v : Tok) (D : Addr) (n : Nat) (news : Led) (hm : (D, oTup #[.float x t, .float y u, .float z v] n) ∈ news)
    (fx : OkF x) (fy : OkF y) (fz : OkF z) :
    CT w p loose mean mg mb 140 [.ref D] 1 news (RetI3 (lampI x) (lampI y) (lampI z)) := by
  intro dp un gd cn cs a ccd cl outer A₀ base h₀ L m s Q E B F X N T hk hdp hu hret
  refine wpAny_call ?_
  k_dflt (refine' code_def (binds := [(Str.ofString "parts", Value.ref D)]) ?k1 ?k2 ?k3 ?k4 ?k5 ?kA ?kF ?kK ?k6 ?k7 ?k8 ?k9 ?kB ?_ ?c2 ?c3 ?c4 ?c5; (case kA => exact rfl); (case kF => exact rfl); (case kK => assumption); (case k1 => k_asm); (case k2 => k_asm); (case k3 => k_asm); (case k4 => k_asm); (case k5 => k_asm); (case k6 => k_is); (case k7 => k_is); (case k8 => ktr_room); (case k9 => exact BindsTo.of_eq rfl); (case c5 => decide); (case kB => exact locs rfl); (case c2 => exact rfl); (case c3 => exact rfl); (case c4 => exact rfl); k_whole; intro g' L' h' FG' F' N' B' X' T'; (try dsimp only); (try k_lift B'); (try k_fold))
  k_steps
  refine comp_tup (its := #[.float x t, .float y u, .float z v]) (by exact rfl) (News.isTup (by assumption) (by assumption)) (show 3 ≤ sizeLine by decide) (by assumption) (by assumption) ?_ ?_
  · intro C v₁ s₃ m₃ E' hv hn hm hk F₃ N₃
    have hv' : ∃ x t, v₁ = .float x t ∧ Float64.isFinite (lampR x) = true := by
      simp only [List.mem_cons, List.not_mem_nil, or_false] at hv
      rcases hv with rfl | rfl | rfl
      · exact ⟨_, _, rfl, fx.fin⟩
      · exact ⟨_, _, rfl, fy.fin⟩
      · exact ⟨_, _, rfl, fz.fin⟩
    obtain ⟨x₁, t₁, rfl, f₁⟩ := hv'
    clear fx fy fz
    unfold lampR at f₁
    k_steps
    all_goals first | (exfalso; exact fin_nan f₁ (by assumption)) | (exfalso; exact fin_inf f₁ (by assumption)) | exact ⟨_, _, rfl, fun _ _ e => e⟩
  · intro D' h' tk' ys n' F₄ N₄ hD hP
    cases hP with | cons h1 hP =>
    cases hP with | cons h2 hP =>
    cases hP with | cons h3 hP =>
    cases hP
    obtain ⟨x1, t1, n1, u1, e1, rfl, rfl⟩ := h1
    obtain ⟨x2, t2, n2, u2, e2, rfl, rfl⟩ := h2
    obtain ⟨x3, t3, n3, u3, e3, rfl, rfl⟩ := h3
    cases e1; cases e2; cases e3
    k_steps
    exact hret _ [_] _ _ (by assumption) (news_drop1 (by assumption)) (ord1 (ktn_ltOf (And.right (by assumption : _ < _ ∧ AllLt _ _)))) ⟨_, _, _, _, _, _, _, _, rfl, rfl, rfl, rfl, rfl⟩
end
theorem c_isub (w : World) (p : Program) (loose : List Str) (mean : ExcName → Option Value) (mg mb : Str → Option Value) (x y : UInt64) (t u : Tok) (news : Led) :
    CT w p loose mean mg mb 128 [.float x t, .float y u] 1 news (RetF (Float64.sub x y)) := by
  intro dp un gd cn cs a ccd cl outer A₀ base h₀ L m s Q E B F X N T hk hdp hu hret
  refine wpAny_call ?_
  k_dflt (refine' code_def (binds := [(Str.ofString "a", Value.float x t), (Str.ofString "b", Value.float y u)]) ?k1 ?k2 ?k3 ?k4 ?k5 ?kA ?kF ?kK ?k6 ?k7 ?k8 ?k9 ?kB ?_ ?c2 ?c3 ?c4 ?c5; (case kA => exact rfl); (case kF => exact rfl); (case kK => assumption); (case k1 => k_asm); (case k2 => k_asm); (case k3 => k_asm); (case k4 => k_asm); (case k5 => k_asm); (case k6 => k_is); (case k7 => k_is); (case k8 => ktr_room); (case k9 => exact BindsTo.of_eq rfl); (case c5 => decide); (case kB => exact locs rfl); (case c2 => exact rfl); (case c3 => exact rfl); (case c4 => exact rfl); k_whole; intro g' L' h' FG' F' N' B' X' T'; (try dsimp only); (try k_lift B'); (try k_fold))
  k_steps
  all_goals exact hret _ [] _ _ (by assumption) (by assumption) ord0 ⟨_, _, rfl, rfl, rfl⟩
end
section
local macro_rules | `(tactic| walk_at "binaryOp Div int int") => `(tactic| (k_here; (with_reducible refine' div16 ?_ ?_ ?_); walk_at "MINE go"))
local macro_rules | `(tactic| walk_at "MINE go3") => `(tactic| first | ((with_reducible refine' c_yiq ..); walk_at "MINE cs") | ((with_reducible refine' c_rgb ..); walk_at "MINE cs") | ((with_reducible refine' c_lamp ..); walk_at "MINE cs"))
local macro_rules | `(tactic| walk_at "MINE goV") => `(tactic| first | ((with_reducible refine' c_isub ..); walk_at "MINE cs"))

theorem c_lack (w : World) (p : Program) (loose : List Str) (mean : ExcName → Option Value) (mg mb : Str → Option Value) (a b : Addr) (a0 a1 a2 b0 b1 b2 gr : Int) (t0 t1 t2 u0 u1 u2 tg : Tok) (n k : Nat) (news : Led) (hm1 : (a, oTup #[.int a0 t0, .int a1 t1, .int a2 t2] n) ∈ news) (hm2 : (b, oTup #[.int b0 u0, .int b1 u1, .int b2 u2] k) ∈ news)
    (h1 : a0.natAbs < 1000) (h2 : a1.natAbs < 1000) (h3 : a2.natAbs < 1000) (h4 : b0.natAbs < 1000) (h5 : b1.natAbs < 1000) (h6 : b2.natAbs < 1000) (h7 : gr.natAbs < 1000)
    (f1 : OkF (lkR a0 a1 a2 b0 b1 b2 gr)) (f2 : OkF (lkG a0 a1 a2 b0 b1 b2 gr)) (f3 : OkF (lkB a0 a1 a2 b0 b1 b2 gr)) :
    CT w p loose mean mg mb 147 [.ref a, .ref b, .int gr tg] 2 news (RetI3 (lampI (lkR a0 a1 a2 b0 b1 b2 gr)) (lampI (lkG a0 a1 a2 b0 b1 b2 gr)) (lampI (lkB a0 a1 a2 b0 b1 b2 gr))) := by
  intro dp un gd cn cs a9 ccd cl outer A₀ base h₀ L m s Q E B F X N T hk hdp hu hret
  refine wpAny_call ?_
  k_dflt (refine' code_def (binds := [(Str.ofString "one", Value.ref a), (Str.ofString "other", Value.ref b), (Str.ofString "grey", Value.int gr tg)]) ?k1 ?k2 ?k3 ?k4 ?k5 ?kA ?kF ?kK ?k6 ?k7 ?k8 ?k9 ?kB ?_ ?c2 ?c3 ?c4 ?c5; (case kA => exact rfl); (case kF => exact rfl); (case kK => assumption); (case k1 => k_asm); (case k2 => k_asm); (case k3 => k_asm); (case k4 => k_asm); (case k5 => k_asm); (case k6 => k_is); (case k7 => k_is); (case k8 => ktr_room); (case k9 => exact BindsTo.of_eq rfl); (case c5 => decide); (case kB => exact locs rfl); (case c2 => exact rfl); (case c3 => exact rfl); (case c4 => exact rfl); k_whole; intro g' L' h' FG' F' N' B' X' T'; (try dsimp only); (try k_lift B'); (try k_fold))
  k_steps
  all_goals exact hret _ [_] _ _ (by assumption) (news_keep1 (by assumption) (List.Mem.head _) (by walk_at "MINE sub")) (ord1 (by walk_at "MINE lt")) ⟨_, _, _, _, _, _, _, _, rfl, rfl, rfl, rfl, rfl⟩
local macro_rules | `(tactic| walk_at "MINE go3") => `(tactic| first | ((with_reducible refine' c_hls ..); walk_at "MINE cs") | ((with_reducible refine' c_rgb2 ..); walk_at "MINE cs"))

theorem c_turned (w : World) (p : Program) (loose : List Str) (mean : ExcName → Option Value) (mg mb : Str → Option Value) (a : Addr) (a0 a1 a2 th : Int) (t0 t1 t2 tg : Tok) (n : Nat) (news : Led) (hm1 : (a, oTup #[.int a0 t0, .int a1 t1, .int a2 t2] n) ∈ news)
    (h1 : a0.natAbs < 1000) (h2 : a1.natAbs < 1000) (h3 : a2.natAbs < 1000) (h7 : th.natAbs < 1000)
    (ok : OkC (d16 a0) (d16 a1) (d16 a2)) (oks : OkS (satF (d16 a0) (d16 a1) (d16 a2))) (f1 : OkF (trR a0 a1 a2 th)) (f2 : OkF (trG a0 a1 a2 th)) (f3 : OkF (trB a0 a1 a2 th)) :
    CT w p loose mean mg mb 154 [.ref a, .int th tg] 3 news (RetI3 (lampI (trR a0 a1 a2 th)) (lampI (trG a0 a1 a2 th)) (lampI (trB a0 a1 a2 th))) := by
  intro dp un gd cn cs a9 ccd cl outer A₀ base h₀ L m s Q E B F X N T hk hdp hu hret
  refine wpAny_call ?_
  k_dflt (refine' code_def (binds := [(Str.ofString "lamp", Value.ref a), (Str.ofString "thirds", Value.int th tg)]) ?k1 ?k2 ?k3 ?k4 ?k5 ?kA ?kF ?kK ?k6 ?k7 ?k8 ?k9 ?kB ?_ ?c2 ?c3 ?c4 ?c5; (case kA => exact rfl); (case kF => exact rfl); (case kK => assumption); (case k1 => k_asm); (case k2 => k_asm); (case k3 => k_asm); (case k4 => k_asm); (case k5 => k_asm); (case k6 => k_is); (case k7 => k_is); (case k8 => ktr_room); (case k9 => exact BindsTo.of_eq rfl); (case c5 => decide); (case kB => exact locs rfl); (case c2 => exact rfl); (case c3 => exact rfl); (case c4 => exact rfl); k_whole; intro g' L' h' FG' F' N' B' X' T'; (try dsimp only); (try k_lift B'); (try k_fold))
  k_steps
  all_goals exact hret _ [_] _ _ (by assumption) (news_keep1 (by assumption) (List.Mem.head _) (by walk_at "MINE sub")) (ord1 (by walk_at "MINE lt")) ⟨_, _, _, _, _, _, _, _, rfl, rfl, rfl, rfl, rfl⟩
end
section
theorem c_sum (r g b : Int) {k p q : Int} (hk : Tri k) (hp : Tri p) (hq : Tri q) (h1 : p ≠ q) (h2 : k ≠ p) (h3 : k ≠ q) :
    r + g + b - c1 r g b p - c1 r g b q = c1 r g b k ∧ r + g + b - c2 r g b p - c2 r g b q = c2 r g b k ∧ r + g + b - c3 r g b p - c3 r g b q = c3 r g b k := by
  rcases hk with rfl | rfl | rfl <;> rcases hp with rfl | rfl | rfl <;> rcases hq with rfl | rfl | rfl <;> simp [c1, c2, c3] at h1 h2 h3 ⊢ <;> (first | exact ⟨linz [] [_, _, _] (.s (.s (.a (.a (.v 0) (.v 1)) (.v 2)) (.v 0)) (.v 1)) (.v 2) .n (by kernel_rfl), ⟨linz [] [_, _, _] (.s (.s (.a (.a (.v 0) (.v 1)) (.v 2)) (.v 1)) (.v 2)) (.v 0) .n (by kernel_rfl), linz [] [_, _] (.s (.a (.v 0) (.v 1)) (.v 0)) (.v 1) .n (by kernel_rfl)⟩⟩ | exact ⟨linz [] [_, _, _] (.s (.s (.a (.a (.v 0) (.v 1)) (.v 2)) (.v 0)) (.v 2)) (.v 1) .n (by kernel_rfl), linz [] [_, _, _] (.s (.s (.a (.a (.v 0) (.v 1)) (.v 2)) (.v 1)) (.v 0)) (.v 2) .n (by kernel_rfl)⟩ | exact ⟨linz [] [_, _, _] (.s (.s (.a (.a (.v 0) (.v 1)) (.v 2)) (.v 1)) (.v 0)) (.v 2) .n (by kernel_rfl), linz [] [_, _, _] (.s (.s (.a (.a (.v 0) (.v 1)) (.v 2)) (.v 0)) (.v 2)) (.v 1) .n (by kernel_rfl)⟩ | exact ⟨linz [] [_, _, _] (.s (.s (.a (.a (.v 0) (.v 1)) (.v 2)) (.v 1)) (.v 2)) (.v 0) .n (by kernel_rfl), ⟨linz [] [_, _] (.s (.a (.v 0) (.v 1)) (.v 0)) (.v 1) .n (by kernel_rfl), linz [] [_, _, _] (.s (.s (.a (.a (.v 0) (.v 1)) (.v 2)) (.v 0)) (.v 1)) (.v 2) .n (by kernel_rfl)⟩⟩ | exact ⟨linz [] [_, _] (.s (.a (.v 0) (.v 1)) (.v 0)) (.v 1) .n (by kernel_rfl), ⟨linz [] [_, _, _] (.s (.s (.a (.a (.v 0) (.v 1)) (.v 2)) (.v 0)) (.v 1)) (.v 2) .n (by kernel_rfl), linz [] [_, _, _] (.s (.s (.a (.a (.v 0) (.v 1)) (.v 2)) (.v 1)) (.v 2)) (.v 0) .n (by kernel_rfl)⟩⟩)
theorem c_range {T0 T1 T2 : Addr} {r g b k : Int} {news : Led} (H : Lmp T0 T1 T2 r g b news) (hk : Tri k) :
    (0 ≤ c1 r g b k ∧ c1 r g b k ≤ 16) ∧ (0 ≤ c2 r g b k ∧ c2 r g b k ≤ 16) ∧ (0 ≤ c3 r g b k ∧ c3 r g b k ≤ 16) := by
  have w1 := H.lt; have w2 := H.lo; have w3 := H.hi
  rcases hk with rfl | rfl | rfl <;> simp [c1, c2, c3] <;> (first | exact ⟨⟨Int.not_lt.mp (fun u9 => lin [] [_, _] (.L 1 (.a (.v 1) (.i 1)) (.i 0) (.L 1 (.a (.v 0) (.i 1)) (.v 1) (.L 1 (.i 0) (.v 0) .n))) (by kernel_rfl) u9 w1 w2.1), Int.not_lt.mp (fun u9 => lin [] [_] (.L 1 (.a (.i 16) (.i 1)) (.v 0) (.L 1 (.v 0) (.i 16) .n)) (by kernel_rfl) u9 w3.1)⟩, ⟨⟨Int.not_lt.mp (fun u9 => lin [] [_] (.L 1 (.a (.v 0) (.i 1)) (.i 0) (.L 1 (.i 0) (.v 0) .n)) (by kernel_rfl) u9 w2.2), Int.not_lt.mp (fun u9 => lin [] [_] (.L 1 (.a (.i 16) (.i 1)) (.v 0) (.L 1 (.v 0) (.i 16) .n)) (by kernel_rfl) u9 w3.2)⟩, ⟨Int.not_lt.mp (fun u9 => lin [] [_] (.L 1 (.a (.v 0) (.i 1)) (.i 0) (.L 1 (.i 0) (.v 0) .n)) (by kernel_rfl) u9 w2.1), Int.not_lt.mp (fun u9 => lin [] [_, _] (.L 1 (.a (.i 16) (.i 1)) (.v 0) (.L 1 (.a (.v 0) (.i 1)) (.v 1) (.L 1 (.v 1) (.i 16) .n))) (by kernel_rfl) u9 w1 w3.1)⟩⟩⟩ | exact ⟨⟨Int.not_lt.mp (fun u9 => lin [] [_] (.L 1 (.a (.v 0) (.i 1)) (.i 0) (.L 1 (.i 0) (.v 0) .n)) (by kernel_rfl) u9 w2.1), Int.not_lt.mp (fun u9 => lin [] [_, _] (.L 1 (.a (.i 16) (.i 1)) (.v 0) (.L 1 (.a (.v 0) (.i 1)) (.v 1) (.L 1 (.v 1) (.i 16) .n))) (by kernel_rfl) u9 w1 w3.1)⟩, ⟨⟨Int.not_lt.mp (fun u9 => lin [] [_, _] (.L 1 (.a (.v 1) (.i 1)) (.i 0) (.L 1 (.a (.v 0) (.i 1)) (.v 1) (.L 1 (.i 0) (.v 0) .n))) (by kernel_rfl) u9 w1 w2.1), Int.not_lt.mp (fun u9 => lin [] [_] (.L 1 (.a (.i 16) (.i 1)) (.v 0) (.L 1 (.v 0) (.i 16) .n)) (by kernel_rfl) u9 w3.1)⟩, ⟨Int.not_lt.mp (fun u9 => lin [] [_] (.L 1 (.a (.v 0) (.i 1)) (.i 0) (.L 1 (.i 0) (.v 0) .n)) (by kernel_rfl) u9 w2.2), Int.not_lt.mp (fun u9 => lin [] [_] (.L 1 (.a (.i 16) (.i 1)) (.v 0) (.L 1 (.v 0) (.i 16) .n)) (by kernel_rfl) u9 w3.2)⟩⟩⟩ | exact ⟨⟨Int.not_lt.mp (fun u9 => lin [] [_] (.L 1 (.a (.v 0) (.i 1)) (.i 0) (.L 1 (.i 0) (.v 0) .n)) (by kernel_rfl) u9 w2.2), Int.not_lt.mp (fun u9 => lin [] [_] (.L 1 (.a (.i 16) (.i 1)) (.v 0) (.L 1 (.v 0) (.i 16) .n)) (by kernel_rfl) u9 w3.2)⟩, ⟨⟨Int.not_lt.mp (fun u9 => lin [] [_] (.L 1 (.a (.v 0) (.i 1)) (.i 0) (.L 1 (.i 0) (.v 0) .n)) (by kernel_rfl) u9 w2.1), Int.not_lt.mp (fun u9 => lin [] [_, _] (.L 1 (.a (.i 16) (.i 1)) (.v 0) (.L 1 (.a (.v 0) (.i 1)) (.v 1) (.L 1 (.v 1) (.i 16) .n))) (by kernel_rfl) u9 w1 w3.1)⟩, ⟨Int.not_lt.mp (fun u9 => lin [] [_, _] (.L 1 (.a (.v 1) (.i 1)) (.i 0) (.L 1 (.a (.v 0) (.i 1)) (.v 1) (.L 1 (.i 0) (.v 0) .n))) (by kernel_rfl) u9 w1 w2.1), Int.not_lt.mp (fun u9 => lin [] [_] (.L 1 (.a (.i 16) (.i 1)) (.v 0) (.L 1 (.v 0) (.i 16) .n)) (by kernel_rfl) u9 w3.1)⟩⟩⟩)
theorem clamp_in {v : Int} (h : 0 ≤ v ∧ v ≤ 16) : clampI 16 v = v := by unfold clampI; split <;> (try split) <;> (first | exact linz [] [_] (.v 0) (.v 0) .n (by kernel_rfl) | (rename_i w0; exact Int.le_antisymm (Int.not_lt.mp (fun u9 => lin [] [_] (.L 0 (.a (.v 0) (.i 1)) (.i 16) (.L 1 (.v 0) (.i 16) (.L 1 (.a (.i 16) (.i 1)) (.v 0) .n))) (by kernel_rfl) u9 h.2 w0)) (Int.not_lt.mp (fun u9 => lin [] [_] (.L 1 (.a (.i 16) (.i 1)) (.v 0) (.L 1 (.v 0) (.i 16) .n)) (by kernel_rfl) u9 h.2))) | (rename_i w0; exact Int.le_antisymm (Int.not_lt.mp (fun u9 => lin [] [_] (.L 1 (.a (.v 0) (.i 1)) (.i 0) (.L 1 (.i 0) (.v 0) .n)) (by kernel_rfl) u9 h.1)) (Int.not_lt.mp (fun u9 => lin [] [_] (.L 0 (.a (.i 0) (.i 1)) (.v 0) (.L 1 (.i 0) (.v 0) (.L 1 (.a (.v 0) (.i 1)) (.i 0) .n))) (by kernel_rfl) u9 h.1 w0))))
theorem c_lackA (w : World) (p : Program) (loose : List Str) (mean : ExcName → Option Value) (mg mb : Str → Option Value) (a b : Addr) (a0 a1 a2 b0 b1 b2 gr : Int) (t0 t1 t2 u0 u1 u2 tg : Tok) (n k : Nat) (news : Led) (hm1 : (a, oTup #[.int a0 t0, .int a1 t1, .int a2 t2] n) ∈ news) (hm2 : (b, oTup #[.int b0 u0, .int b1 u1, .int b2 u2] k) ∈ news)
    (h0 : 0 ≤ a0 ∧ a0 ≤ 16) (h1 : 0 ≤ a1 ∧ a1 ≤ 16) (h2 : 0 ≤ a2 ∧ a2 ≤ 16) (k0 : 0 ≤ b0 ∧ b0 ≤ 16) (k1 : 0 ≤ b1 ∧ b1 ≤ 16) (k2 : 0 ≤ b2 ∧ b2 ≤ 16) (hg : 0 ≤ gr ∧ gr ≤ 48) :
    CT w p loose mean mg mb 147 [.ref a, .ref b, .int gr tg] 2 news (RetI3 (clampI 16 (gr - a0 - b0)) (clampI 16 (gr - a1 - b1)) (clampI 16 (gr - a2 - b2))) := by
  have x := lk_r h0 h1 h2 k0 k1 k2 hg
  have y := lk_g h0 h1 h2 k0 k1 k2 hg
  have z := lk_b h0 h1 h2 k0 k1 k2 hg
  have := c_lack w p loose mean mg mb a b a0 a1 a2 b0 b1 b2 gr t0 t1 t2 u0 u1 u2 tg n k news hm1 hm2 (by exact Nat.not_le.mp (fun u9 => lin [_] [_] (.l 1 (.c 1000) (.v 0) (.L 1 (.v 0) (.i 16) (.E 1 (.z (.v 0)) (.v 0) .n))) (by kernel_rfl) u9 h0.2 (Int.natAbs_of_nonneg (Int.not_lt.mp (fun u9 => lin [] [_] (.L 1 (.a (.v 0) (.i 1)) (.i 0) (.L 1 (.i 0) (.v 0) .n)) (by kernel_rfl) u9 h0.1))))) (by exact Nat.not_le.mp (fun u9 => lin [_] [_] (.l 1 (.c 1000) (.v 0) (.L 1 (.v 0) (.i 16) (.E 1 (.z (.v 0)) (.v 0) .n))) (by kernel_rfl) u9 h1.2 (Int.natAbs_of_nonneg (Int.not_lt.mp (fun u9 => lin [] [_] (.L 1 (.a (.v 0) (.i 1)) (.i 0) (.L 1 (.i 0) (.v 0) .n)) (by kernel_rfl) u9 h1.1))))) (by exact Nat.not_le.mp (fun u9 => lin [_] [_] (.l 1 (.c 1000) (.v 0) (.L 1 (.v 0) (.i 16) (.E 1 (.z (.v 0)) (.v 0) .n))) (by kernel_rfl) u9 h2.2 (Int.natAbs_of_nonneg (Int.not_lt.mp (fun u9 => lin [] [_] (.L 1 (.a (.v 0) (.i 1)) (.i 0) (.L 1 (.i 0) (.v 0) .n)) (by kernel_rfl) u9 h2.1))))) (by exact Nat.not_le.mp (fun u9 => lin [_] [_] (.l 1 (.c 1000) (.v 0) (.L 1 (.v 0) (.i 16) (.E 1 (.z (.v 0)) (.v 0) .n))) (by kernel_rfl) u9 k0.2 (Int.natAbs_of_nonneg (Int.not_lt.mp (fun u9 => lin [] [_] (.L 1 (.a (.v 0) (.i 1)) (.i 0) (.L 1 (.i 0) (.v 0) .n)) (by kernel_rfl) u9 k0.1))))) (by exact Nat.not_le.mp (fun u9 => lin [_] [_] (.l 1 (.c 1000) (.v 0) (.L 1 (.v 0) (.i 16) (.E 1 (.z (.v 0)) (.v 0) .n))) (by kernel_rfl) u9 k1.2 (Int.natAbs_of_nonneg (Int.not_lt.mp (fun u9 => lin [] [_] (.L 1 (.a (.v 0) (.i 1)) (.i 0) (.L 1 (.i 0) (.v 0) .n)) (by kernel_rfl) u9 k1.1))))) (by exact Nat.not_le.mp (fun u9 => lin [_] [_] (.l 1 (.c 1000) (.v 0) (.L 1 (.v 0) (.i 16) (.E 1 (.z (.v 0)) (.v 0) .n))) (by kernel_rfl) u9 k2.2 (Int.natAbs_of_nonneg (Int.not_lt.mp (fun u9 => lin [] [_] (.L 1 (.a (.v 0) (.i 1)) (.i 0) (.L 1 (.i 0) (.v 0) .n)) (by kernel_rfl) u9 k2.1))))) (by exact Nat.not_le.mp (fun u9 => lin [_] [_] (.l 1 (.c 1000) (.v 0) (.L 1 (.v 0) (.i 48) (.E 1 (.z (.v 0)) (.v 0) .n))) (by kernel_rfl) u9 hg.2 (Int.natAbs_of_nonneg (Int.not_lt.mp (fun u9 => lin [] [_] (.L 1 (.a (.v 0) (.i 1)) (.i 0) (.L 1 (.i 0) (.v 0) .n)) (by kernel_rfl) u9 hg.1))))) x.1 y.1 z.1
  rw [x.2, y.2, z.2] at this
  exact this
/-- three lamps of three kinds -/
structure Third (i j k : Int) : Prop where
  hi : Tri i
  hj : Tri j
  hk : Tri k
  e1 : i ≠ j
  e2 : k ≠ i
  e3 : k ≠ j
theorem c_lackT (w : World) (p : Program) (loose : List Str) (mean : ExcName → Option Value) (mg mb : Str → Option Value) (T0 T1 T2 : Addr) (r g b i j k gr : Int) (tg : Tok) (news : Led) (H : Lmp T0 T1 T2 r g b news) (ht : Third i j k) (hg : gr = r + g + b) :
    CT w p loose mean mg mb 147 [.ref (kA T0 T1 T2 i), .ref (kA T0 T1 T2 j), .int gr tg] 2 news (RetI3 (c1 r g b k) (c2 r g b k) (c3 r g b k)) := by
  obtain ⟨hi, hj, hk', e1, e2, e3⟩ := ht
  obtain ⟨x, y, z, n, m1⟩ := H.mem hi
  obtain ⟨x', y', z', n', m2⟩ := H.mem hj
  obtain ⟨p1, p2, p3⟩ := c_range H hi
  obtain ⟨q1, q2, q3⟩ := c_range H hj
  obtain ⟨s1, s2, s3⟩ := c_range H hk'
  obtain ⟨u1, u2, u3⟩ := c_sum r g b hk' hi hj e1 e2 e3
  have w1 := H.lt; have w2 := H.lo; have w3 := H.hi
  have := c_lackA w p loose mean mg mb _ _ _ _ _ _ _ _ gr _ _ _ _ _ _ tg _ _ news m1 m2 p1 p2 p3 q1 q2 q3 (by exact ⟨Int.not_lt.mp (fun u9 => lin [] [_, _, _, _] (.L 1 (.a (.v 0) (.i 1)) (.i 0) (.E (-1) (.v 0) (.a (.a (.v 1) (.v 2)) (.v 3)) (.L 1 (.a (.v 3) (.i 1)) (.v 1) (.L 2 (.i 0) (.v 3) (.L 1 (.i 0) (.v 2) .n))))) (by kernel_rfl) u9 hg w1 w2.1 w2.2), Int.not_lt.mp (fun u9 => lin [] [_, _, _, _] (.L 1 (.a (.i 48) (.i 1)) (.v 0) (.E 1 (.v 0) (.a (.a (.v 1) (.v 2)) (.v 3)) (.L 1 (.a (.v 3) (.i 1)) (.v 1) (.L 2 (.v 1) (.i 16) (.L 1 (.v 2) (.i 16) .n))))) (by kernel_rfl) u9 hg w1 w3.1 w3.2)⟩)
  rw [hg, u1, u2, u3, clamp_in s1, clamp_in s2, clamp_in s3] at this
  rw [hg]
  exact this
theorem c_lackS (w : World) (p : Program) (loose : List Str) (mean : ExcName → Option Value) (mg mb : Str → Option Value) (T0 T1 T2 : Addr) (r g b i gr : Int) (tg : Tok) (news : Led) (H : Lmp T0 T1 T2 r g b news) (hi : Tri i) (hg : gr = r + g + b) :
    CT w p loose mean mg mb 147 [.ref (kA T0 T1 T2 i), .ref (kA T0 T1 T2 i), .int gr tg] 2 news (RetI3 (clampI 16 (gr - 2 * c1 r g b i)) (clampI 16 (gr - 2 * c2 r g b i)) (clampI 16 (gr - 2 * c3 r g b i))) := by
  obtain ⟨x, y, z, n, m1⟩ := H.mem hi
  obtain ⟨p1, p2, p3⟩ := c_range H hi
  have w1 := H.lt; have w2 := H.lo; have w3 := H.hi
  have := c_lackA w p loose mean mg mb _ _ _ _ _ _ _ _ gr _ _ _ _ _ _ tg _ _ news m1 m1 p1 p2 p3 p1 p2 p3 (by exact ⟨Int.not_lt.mp (fun u9 => lin [] [_, _, _, _] (.L 1 (.a (.v 0) (.i 1)) (.i 0) (.E (-1) (.v 0) (.a (.a (.v 1) (.v 2)) (.v 3)) (.L 1 (.a (.v 3) (.i 1)) (.v 1) (.L 2 (.i 0) (.v 3) (.L 1 (.i 0) (.v 2) .n))))) (by kernel_rfl) u9 hg w1 w2.1 w2.2), Int.not_lt.mp (fun u9 => lin [] [_, _, _, _] (.L 1 (.a (.i 48) (.i 1)) (.v 0) (.E 1 (.v 0) (.a (.a (.v 1) (.v 2)) (.v 3)) (.L 1 (.a (.v 3) (.i 1)) (.v 1) (.L 2 (.v 1) (.i 16) (.L 1 (.v 2) (.i 16) .n))))) (by kernel_rfl) u9 hg w1 w3.1 w3.2)⟩)
  rw [show gr - c1 r g b i - c1 r g b i = gr - 2 * c1 r g b i by exact linz [] [_, _] (.s (.s (.v 0) (.v 1)) (.v 1)) (.s (.v 0) (.m 2 (.v 1))) .n (by kernel_rfl), show gr - c2 r g b i - c2 r g b i = gr - 2 * c2 r g b i by exact linz [] [_, _] (.s (.s (.v 0) (.v 1)) (.v 1)) (.s (.v 0) (.m 2 (.v 1))) .n (by kernel_rfl), show gr - c3 r g b i - c3 r g b i = gr - 2 * c3 r g b i by exact linz [] [_, _] (.s (.s (.v 0) (.v 1)) (.v 1)) (.s (.v 0) (.m 2 (.v 1))) .n (by kernel_rfl)] at this
  exact this
theorem frameCell {M : Model} {A : Around} {E : Value → Shared → Prop} {s : Shared} {h₀ : Heap} {L c : Addr} {news : Led} {o : Obj} {env : Env} {n : Str} {pos : Pos} {v : Value} {Q : Value → Shared → Prop} (N : News h₀ L s.heap news) (hm : (c, o) ∈ news) (hd : o.data = .cell (some v))
    (hk : env.scope.kind = .function) (hl : env.kindOf n = some .cell) (hc : env.cells.lookup n = some c) (h : Q v s) (hb : (n == ("__debug__" : Str)) = false) : wpAny M A (eval (.Name n pos) env) Q E s :=
  wpAny_Name (wpAny_loadName_cell hk hl hc ⟨o, (N _ hm).1, hd⟩ h) hb
section
variable {prog : Program} {w : World} {A : Around} {E : Value → Shared → Prop} {s : Shared} {h₀ : Heap} {L a b : Addr} {news : Led} {a0 a1 a2 : Int} {t0 t1 t2 u0 u1 u2 : Tok} {n k : Nat}
theorem ne_t3_same {Q : Value → Shared → Prop} (N : News h₀ L s.heap news) (hm1 : (a, oTup #[.int a0 t0, .int a1 t1, .int a2 t2] n) ∈ news) (hm2 : (b, oTup #[.int a0 u0, .int a1 u1, .int a2 u2] k) ∈ news) (hu : A.units + 64 < cLine)
    (h : Q (.bool false) s) : wpAny (model prog w) A (compareOp .NotEq (.ref a) (.ref b)) Q E s :=
  ne_t3 N hm1 hm2 hu (by simpa using h)
end
end
section
theorem c_next (r g b : Int) {k : Int} (hk : Tri k) : c1 r g b (Int.fmod (k + 1) 3) = c3 r g b k ∧ c2 r g b (Int.fmod (k + 1) 3) = c1 r g b k ∧ c3 r g b (Int.fmod (k + 1) 3) = c2 r g b k ∧
    c1 r g b (Int.fmod (k + 2) 3) = c2 r g b k ∧ c2 r g b (Int.fmod (k + 2) 3) = c3 r g b k ∧ c3 r g b (Int.fmod (k + 2) 3) = c1 r g b k := by
  rcases hk with rfl | rfl | rfl <;> simp [c1, c2, c3]
theorem c_nat {r g b k : Int} (hl : b < r) (h0 : 0 ≤ b) (hg : 0 ≤ g) (hr : r ≤ 16) (hg2 : g ≤ 16) (hk : Tri k) :
    ∃ x y z : Nat, c1 r g b k = (x : Int) ∧ c2 r g b k = (y : Int) ∧ c3 r g b k = (z : Int) ∧ x ≤ 16 ∧ y ≤ 16 ∧ z ≤ 16 ∧ mnN x y z < mxN x y z := by
  obtain ⟨r, rfl⟩ : ∃ n : Nat, r = (n : Int) := ⟨r.toNat, by exact linz [_] [_] (.v 0) (.z (.v 0)) (.E 1 (.z (.v 0)) (.v 0) .n) (by kernel_rfl) (Int.toNat_of_nonneg (Int.not_lt.mp (fun u9 => lin [] [_, _] (.L 1 (.a (.v 1) (.i 1)) (.i 0) (.L 1 (.a (.v 0) (.i 1)) (.v 1) (.L 1 (.i 0) (.v 0) .n))) (by kernel_rfl) u9 hl h0)))⟩
  obtain ⟨g, rfl⟩ : ∃ n : Nat, g = (n : Int) := ⟨g.toNat, by exact linz [_] [_] (.v 0) (.z (.v 0)) (.E 1 (.z (.v 0)) (.v 0) .n) (by kernel_rfl) (Int.toNat_of_nonneg (Int.not_lt.mp (fun u9 => lin [] [_] (.L 1 (.a (.v 0) (.i 1)) (.i 0) (.L 1 (.i 0) (.v 0) .n)) (by kernel_rfl) u9 hg)))⟩
  obtain ⟨b, rfl⟩ : ∃ n : Nat, b = (n : Int) := ⟨b.toNat, by exact linz [_] [_] (.v 0) (.z (.v 0)) (.E 1 (.z (.v 0)) (.v 0) .n) (by kernel_rfl) (Int.toNat_of_nonneg (Int.not_lt.mp (fun u9 => lin [] [_] (.L 1 (.a (.v 0) (.i 1)) (.i 0) (.L 1 (.i 0) (.v 0) .n)) (by kernel_rfl) u9 h0)))⟩
  rcases hk with rfl | rfl | rfl
  · exact ⟨r, g, b, rfl, rfl, rfl, by exact Nat.not_lt.mp (fun u9 => lin [_] [] (.l 1 (.a (.c 16) (.c 1)) (.v 0) (.L 1 (.z (.v 0)) (.i 16) .n)) (by kernel_rfl) u9 hr), by exact Nat.not_lt.mp (fun u9 => lin [_] [] (.l 1 (.a (.c 16) (.c 1)) (.v 0) (.L 1 (.z (.v 0)) (.i 16) .n)) (by kernel_rfl) u9 hg2), by exact Nat.not_lt.mp (fun u9 => lin [_, _] [] (.l 1 (.a (.c 16) (.c 1)) (.v 1) (.L 1 (.z (.v 0)) (.i 16) (.L 1 (.a (.z (.v 1)) (.i 1)) (.z (.v 0)) .n))) (by kernel_rfl) u9 hr hl), by unfold mnN mxN; exact Nat.not_le.mp (fun u9 => lin [_, _, _, _, _] [] (.l 1 (.v 2) (.v 3) (.L 1 (.a (.z (.v 0)) (.i 1)) (.z (.v 1)) (.l 1 (.v 1) (.v 2) (.e 1 (.v 3) (.v 4) (.l 1 (.v 4) (.v 0) .n))))) (by kernel_rfl) u9 hl (Nat.le_max_left _ _) (Nat.min_eq_right (Nat.not_lt.mp (fun u9 => lin [_, _, _] [] (.l 1 (.a (.v 1) (.c 1)) (.v 2) (.L 1 (.a (.z (.v 0)) (.i 1)) (.z (.v 1)) (.l 1 (.v 2) (.v 0) .n))) (by kernel_rfl) u9 hl (Nat.min_le_right _ _)))) (Nat.min_le_right _ _))⟩
  · exact ⟨b, r, g, rfl, rfl, rfl, by exact Nat.not_lt.mp (fun u9 => lin [_, _] [] (.l 1 (.a (.c 16) (.c 1)) (.v 1) (.L 1 (.z (.v 0)) (.i 16) (.L 1 (.a (.z (.v 1)) (.i 1)) (.z (.v 0)) .n))) (by kernel_rfl) u9 hr hl), by exact Nat.not_lt.mp (fun u9 => lin [_] [] (.l 1 (.a (.c 16) (.c 1)) (.v 0) (.L 1 (.z (.v 0)) (.i 16) .n)) (by kernel_rfl) u9 hr), by exact Nat.not_lt.mp (fun u9 => lin [_] [] (.l 1 (.a (.c 16) (.c 1)) (.v 0) (.L 1 (.z (.v 0)) (.i 16) .n)) (by kernel_rfl) u9 hg2), by unfold mnN mxN; exact Nat.not_le.mp (fun u9 => lin [_, _, _, _, _] [] (.l 1 (.v 2) (.v 3) (.L 1 (.a (.z (.v 0)) (.i 1)) (.z (.v 1)) (.e (-1) (.v 2) (.v 4) (.l 1 (.v 3) (.v 0) (.l 1 (.v 1) (.v 4) .n))))) (by kernel_rfl) u9 hl (Nat.max_eq_right (Nat.not_lt.mp (fun u9 => lin [_, _, _] [] (.l 1 (.a (.v 2) (.c 1)) (.v 0) (.L 1 (.a (.z (.v 0)) (.i 1)) (.z (.v 1)) (.l 1 (.v 1) (.v 2) .n))) (by kernel_rfl) u9 hl (Nat.le_max_left _ _)))) (Nat.min_le_left _ _) (Nat.le_max_left _ _))⟩
  · exact ⟨g, b, r, rfl, rfl, rfl, by exact Nat.not_lt.mp (fun u9 => lin [_] [] (.l 1 (.a (.c 16) (.c 1)) (.v 0) (.L 1 (.z (.v 0)) (.i 16) .n)) (by kernel_rfl) u9 hg2), by exact Nat.not_lt.mp (fun u9 => lin [_, _] [] (.l 1 (.a (.c 16) (.c 1)) (.v 1) (.L 1 (.z (.v 0)) (.i 16) (.L 1 (.a (.z (.v 1)) (.i 1)) (.z (.v 0)) .n))) (by kernel_rfl) u9 hr hl), by exact Nat.not_lt.mp (fun u9 => lin [_] [] (.l 1 (.a (.c 16) (.c 1)) (.v 0) (.L 1 (.z (.v 0)) (.i 16) .n)) (by kernel_rfl) u9 hr), by unfold mnN mxN; exact Nat.not_le.mp (fun u9 => lin [_, _, _, _, _, _] [] (.l 1 (.v 2) (.v 3) (.L 1 (.a (.z (.v 0)) (.i 1)) (.z (.v 1)) (.l 1 (.v 4) (.v 2) (.l 1 (.v 3) (.v 5) (.e (-1) (.v 4) (.v 1) (.e 1 (.v 5) (.v 0) .n)))))) (by kernel_rfl) u9 hl (Nat.le_max_right _ _) (Nat.min_le_right _ _) (Nat.max_eq_right (Nat.not_lt.mp (fun u9 => lin [_, _] [] (.l 1 (.a (.v 1) (.c 1)) (.v 0) (.L 1 (.a (.z (.v 0)) (.i 1)) (.z (.v 1)) .n)) (by kernel_rfl) u9 hl))) (Nat.min_eq_left (Nat.not_lt.mp (fun u9 => lin [_, _] [] (.l 1 (.a (.v 1) (.c 1)) (.v 0) (.L 1 (.a (.z (.v 0)) (.i 1)) (.z (.v 1)) .n)) (by kernel_rfl) u9 hl))))⟩
/-- what the lamps are within -/
structure Rng (r g b : Int) : Prop where
  l : b < r
  b0 : 0 ≤ b
  g0 : 0 ≤ g
  r1 : r ≤ 16
  g1 : g ≤ 16
theorem c_turnedK (w : World) (p : Program) (loose : List Str) (mean : ExcName → Option Value) (mg mb : Str → Option Value) (a : Addr) (r g b k th : Int) (t0 t1 t2 tg : Tok) (n : Nat) (news : Led) (H : Rng r g b) (hm1 : (a, oTup #[.int (c1 r g b k) t0, .int (c2 r g b k) t1, .int (c3 r g b k) t2] n) ∈ news) (hk' : Tri k) (ht : th = 1 ∨ th = 2) :
    CT w p loose mean mg mb 154 [.ref a, .int th tg] 3 news (RetI3 (c1 r g b (Int.fmod (k + th) 3)) (c2 r g b (Int.fmod (k + th) 3)) (c3 r g b (Int.fmod (k + th) 3))) := by
  obtain ⟨x, y, z, e1, e2, e3, hx, hy, hz, hD⟩ := c_nat H.l H.b0 H.g0 H.r1 H.g1 hk'
  obtain ⟨q1, q2, q3, q4, q5, q6⟩ := c_next r g b hk'
  obtain ⟨okc, oks⟩ := okC_d16 hx hy hz hD
  rcases ht with rfl | rfl
  · obtain ⟨p1, p2, p3⟩ := tr_ok (th := 1) hx hy hz hD (.inl rfl)
    rw [q1, q2, q3, e1, e2, e3]
    rw [e1, e2, e3] at hm1
    have := c_turned w p loose mean mg mb a x y z 1 t0 t1 t2 tg n news hm1 (by exact Nat.not_le.mp (fun u9 => lin [_, _] [] (.l 1 (.c 1000) (.v 1) (.l 1 (.v 0) (.c 16) (.E 1 (.z (.v 1)) (.z (.v 0)) .n))) (by kernel_rfl) u9 hx (Int.natAbs_of_nonneg (Int.not_lt.mp (fun u9 => lin [_] [] (.L 1 (.a (.z (.v 0)) (.i 1)) (.i 0) .n) (by kernel_rfl) u9))))) (by exact Nat.not_le.mp (fun u9 => lin [_, _] [] (.l 1 (.c 1000) (.v 1) (.l 1 (.v 0) (.c 16) (.E 1 (.z (.v 1)) (.z (.v 0)) .n))) (by kernel_rfl) u9 hy (Int.natAbs_of_nonneg (Int.not_lt.mp (fun u9 => lin [_] [] (.L 1 (.a (.z (.v 0)) (.i 1)) (.i 0) .n) (by kernel_rfl) u9))))) (by exact Nat.not_le.mp (fun u9 => lin [_, _] [] (.l 1 (.c 1000) (.v 1) (.l 1 (.v 0) (.c 16) (.E 1 (.z (.v 1)) (.z (.v 0)) .n))) (by kernel_rfl) u9 hz (Int.natAbs_of_nonneg (Int.not_lt.mp (fun u9 => lin [_] [] (.L 1 (.a (.z (.v 0)) (.i 1)) (.i 0) .n) (by kernel_rfl) u9))))) (by decide) okc oks p1.1 p2.1 p3.1
    rw [show (1 : Int) = ((1 : Nat) : Int) from rfl, p1.2, p2.2, p3.2] at this
    exact this
  · obtain ⟨p1, p2, p3⟩ := tr_ok (th := 2) hx hy hz hD (.inr rfl)
    rw [q4, q5, q6, e1, e2, e3]
    rw [e1, e2, e3] at hm1
    have := c_turned w p loose mean mg mb a x y z 2 t0 t1 t2 tg n news hm1 (by exact Nat.not_le.mp (fun u9 => lin [_, _] [] (.l 1 (.c 1000) (.v 1) (.l 1 (.v 0) (.c 16) (.E 1 (.z (.v 1)) (.z (.v 0)) .n))) (by kernel_rfl) u9 hx (Int.natAbs_of_nonneg (Int.not_lt.mp (fun u9 => lin [_] [] (.L 1 (.a (.z (.v 0)) (.i 1)) (.i 0) .n) (by kernel_rfl) u9))))) (by exact Nat.not_le.mp (fun u9 => lin [_, _] [] (.l 1 (.c 1000) (.v 1) (.l 1 (.v 0) (.c 16) (.E 1 (.z (.v 1)) (.z (.v 0)) .n))) (by kernel_rfl) u9 hy (Int.natAbs_of_nonneg (Int.not_lt.mp (fun u9 => lin [_] [] (.L 1 (.a (.z (.v 0)) (.i 1)) (.i 0) .n) (by kernel_rfl) u9))))) (by exact Nat.not_le.mp (fun u9 => lin [_, _] [] (.l 1 (.c 1000) (.v 1) (.l 1 (.v 0) (.c 16) (.E 1 (.z (.v 1)) (.z (.v 0)) .n))) (by kernel_rfl) u9 hz (Int.natAbs_of_nonneg (Int.not_lt.mp (fun u9 => lin [_] [] (.L 1 (.a (.z (.v 0)) (.i 1)) (.i 0) .n) (by kernel_rfl) u9))))) (by decide) okc oks p1.1 p2.1 p3.1
    rw [show (2 : Int) = ((2 : Nat) : Int) from rfl, p1.2, p2.2, p3.2] at this
    exact this
/-- the hue of a lamp of a kind -/
noncomputable def hueK (r g b k : Int) : UInt64 := hueF (d16 (c1 r g b k)) (d16 (c2 r g b k)) (d16 (c3 r g b k))
theorem th_kinds {r g b i j : Int} (H : Rng r g b) (hi : Tri i) (hj : Tri j) (hn : i ≠ j) :
    Float64.isFinite (thF (hueK r g b i) (hueK r g b j)) = true ∧ Flt.toInt Float64.truncOf (thF (hueK r g b i) (hueK r g b j)) = Int.fmod (j - i) 3 := by
  obtain ⟨x, y, z, e1, e2, e3, hx, hy, hz, hD⟩ := c_nat H.l H.b0 H.g0 H.r1 H.g1 hi
  obtain ⟨q1, q2, q3, q4, q5, q6⟩ := c_next r g b hi
  obtain ⟨p1, p2⟩ := th_ok hx hy hz hD
  have hc : j = Int.fmod (i + 1) 3 ∧ Int.fmod (j - i) 3 = 1 ∨ j = Int.fmod (i + 2) 3 ∧ Int.fmod (j - i) 3 = 2 := by
    rcases hi with rfl | rfl | rfl <;> rcases hj with rfl | rfl | rfl <;> first | exact absurd rfl hn | exact .inl (by decide) | exact .inr (by decide)
  unfold hueK
  rcases hc with ⟨h1, h2⟩ | ⟨h1, h2⟩
  · rw [h2, h1, q1, q2, q3, e1, e2, e3]; exact p1
  · rw [h2, h1, q4, q5, q6, e1, e2, e3]; exact p2
theorem okc_kind {r g b i : Int} (H : Rng r g b) (hi : Tri i) : OkC (d16 (c1 r g b i)) (d16 (c2 r g b i)) (d16 (c3 r g b i)) := by
  obtain ⟨x, y, z, e1, e2, e3, hx, hy, hz, hD⟩ := c_nat H.l H.b0 H.g0 H.r1 H.g1 hi
  rw [e1, e2, e3]
  exact (okC_d16 hx hy hz hD).1
end
section
local macro_rules | `(tactic| walk_at "MINE nx") => `(tactic| first | exact s0 (by assumption) | exact s1 (by assumption) | exact s2 (by assumption) | exact s3 (by assumption) | exact s4 (by assumption) | exact s5 (by assumption) | exact s6 (by assumption))
local macro_rules | `(tactic| walk_at "MINE ne") => `(tactic| first | assumption | (apply Ne.symm; assumption) | walk_at "MINE nx" | (apply Ne.symm; walk_at "MINE nx") | (refine neN ?_; lia))
local macro_rules | `(tactic| walk_at "MINE nes") => `(tactic| first | assumption | exact ne_lt' (by assumption) | exact ne_succ (by assumption) | exact ne_allLt (by walk_at "MINE al"))
local macro_rules | `(tactic| walk_at "MINE subl") => `(tactic| first | exact sub_i | exact sub_nil' | (with_reducible refine' sub_cons' ?h ?k; (case h => walk_at "MINE mem"); walk_at "MINE subl") | walk_at "MINE sub")
local macro_rules | `(tactic| walk_at "MINE bes") => `(tactic| k_dflt (first | assumption | exact bes_nil0 | (refine' bes_skip ?bs; (case bs => walk_at "MINE bes")) | (refine' bes_take ?bh ?br; (case bh => walk_at "MINE ne"); (case br => walk_at "MINE bes")) | (refine' bes_tail ?bt; (case bt => walk_at "MINE nes"))))
local macro_rules | `(tactic| walk_at "call builtin:list.append") => `(tactic| (k_here; (with_reducible refine append_at' (by walk_at "MINE s0") (by walk_at "MINE s0") (by walk_at "MINE mem") (by walk_at "MINE bes") (by walk_at "MINE ar") ?_); walk_at "MINE o2"))
local macro_rules | `(tactic| walk_at "subscriptTail") => `(tactic| (k_here; (with_reducible refine get_last (by walk_at "MINE s0") (by walk_at "MINE mem") (by walk_at "MINE ar") ?_); walk_at "MINE o2"))
local macro_rules | `(tactic| walk_at "call builtin:len") => `(tactic| (k_here; (with_reducible refine len_made' (by walk_at "MINE s0") (by walk_at "MINE mem") (by walk_at "MINE ar") ?_); walk_at "MINE o2"))
local macro_rules | `(tactic| walk_at "call builtin:len") => `(tactic| (k_here; (with_reducible refine len_map (by walk_at "MINE s0") (by walk_at "MINE mem") (by walk_at "MINE ar") ?_); walk_at "MINE o2"))
local macro_rules | `(tactic| walk_at "call type:list") => `(tactic| (k_here; (with_reducible refine copy_list (by walk_at "MINE s0") (by walk_at "MINE s0") (by walk_at "MINE mem") (by walk_at "MINE ar") ?_); walk_at "MINE o2"))
local macro_rules | `(tactic| walk_at "storeName") => `(tactic| (k_here; k_dflt (refine' storeC_b ?_ ?_ ?c ?_ ?_ ?_ ?_ ?a ?e; (case a => rfl); (case e => rfl); (case c => rfl)); walk_at "MINE go"))
local macro_rules | `(tactic| walk_at "subscriptTail Name Slice ref ref") => `(tactic| (k_here; (with_reducible refine slice_from (by walk_at "MINE s0") (by walk_at "MINE s0") (by walk_at "MINE mem") (by walk_at "MINE ar") (by walk_at "MINE ar") ?_); walk_at "MINE o2"))
local macro_rules | `(tactic| walk_at "subscriptTail Name Slice ref ref") => `(tactic| (k_here; (with_reducible refine slice_upto (by walk_at "MINE s0") (by walk_at "MINE s0") (by walk_at "MINE mem") (by walk_at "MINE ar") (by walk_at "MINE ar") ?_); walk_at "MINE o2"))
local macro_rules | `(tactic| walk_at "binaryOp Add ref ref") => `(tactic| (k_here; (with_reducible refine add_lsts (by walk_at "MINE s0") (by walk_at "MINE s0") (by walk_at "MINE mem") (by walk_at "MINE mem") (by walk_at "MINE ar") ?_); walk_at "MINE o2"))
section
local macro_rules | `(tactic| walk_at "subscriptTail") => `(tactic| (k_here; (with_reducible refine get_at (by walk_at "MINE s0") (by walk_at "MINE mem") (by walk_at "MINE ar") (by k_dflt first | assumption | exact rfl) (by walk_at "MINE ar") ?_); walk_at "MINE o2"))

theorem c_ring (w : World) (p : Program) (loose : List Str) (mean : ExcName → Option Value) (mg mb : Str → Option Value) (a : Addr) (n0 n1 n2 n3 : Int) (t0 t1 t2 t3 : Tok) (vr : List Value) (nr : List Int) (n : Nat) (news : Led) (hm : (a, oLst (.int n0 t0 :: .int n1 t1 :: .int n2 t2 :: .int n3 t3 :: vr) n) ∈ news) (hi : IntsAre vr nr) (hl2 : nr.length ≤ 2) (hr : ∀ x ∈ n0 :: n1 :: n2 :: n3 :: nr, 0 ≤ x ∧ x < 1000000) :
    CTN w p loose mean mg mb 159 [.ref a] 12 news (RetRing (n0 :: n1 :: n2 :: n3 :: nr)) := by
  intro dp un gd cn cs a9 ccd cl outer A₀ base h₀ L m s Q E B F X N T hk hdp hu hret
  refine wpAny_call ?_
  k_dflt (refine' code_defC (binds := [(Str.ofString "numbers", Value.ref a)]) ?k1 ?k2 ?k3 ?k4 ?k5 ?kA ?kF ?kK ?k6 ?k7 ?k8 ?k9 ?kB ?kD ?_ ?c2 ?c3 ?c4; (case kA => exact rfl); (case kF => exact rfl); (case kK => assumption); (case k1 => k_asm); (case k2 => k_asm); (case k3 => k_asm); (case k4 => k_asm); (case k5 => k_asm); (case k6 => k_is); (case k7 => k_is); (case k8 => ktr_room); (case k9 => exact BindsTo.of_eq rfl); (case kB => exact rfl); (case kD => decide +kernel); (case c2 => exact rfl); (case c3 => exact rfl); (case c4 => exact rfl); k_whole; intro g' L' h' tk' cells' FG' F' N' Y' B' X' T' l1; (try k_lt l1); k_cells Y'; (try simp only [List.cons_append, List.nil_append] at N'); (try dsimp only); (try k_lift B'); (try k_fold))
  repeat' ((fail_if_success (with_reducible show wpAny _ _ (exec (PySem.Stmt.For _ _ _ _ _) _) _ _ _)); (fail_if_success (with_reducible show wpAny _ _ (exec (PySem.Stmt.While _ _ _ _) _) _ _ _)); (fail_if_success (with_reducible show wpAny _ _ (pyIter _) _ _ _)); (first | (k_unfold; (try dsimp only)) | (k_end; kc_close) | walk1 | (dsimp only; walk1) | (leave1; walk_say "STEP leave1"; (try dsimp only))))
  rename_i oc d1 K hA l₁ hB tB mB F₁ N₁
  have haK : a < K := lt_of_mem l₁.2 hm
  refine For_invVF F₁ (by exact rfl) (by exact rfl) ?_
  repeat' ((fail_if_success (with_reducible show wpAny _ _ (exec (PySem.Stmt.For _ _ _ _ _) _) _ _ _)); (fail_if_success (with_reducible show wpAny _ _ (exec (PySem.Stmt.While _ _ _ _) _) _ _ _)); (fail_if_success (with_reducible show wpAny _ _ (pyIter _) _ _ _)); (first | (k_unfold; (try dsimp only)) | (k_end; kc_close) | walk1 | (dsimp only; walk1) | (leave1; walk_say "STEP leave1"; (try dsimp only))))
  refine iter_made (l := a) (its := .int n0 t0 :: .int n1 t1 :: .int n2 t2 :: .int n3 t3 :: vr) (n := n) (fun i m nw => ∃ vs ks k t c, m (Str.ofString "kinds") = some (.ref K) ∧ m (Str.ofString "numbers") = some (.ref a) ∧ nw = (K, oLst (vs ++ [.int k t]) c) :: (L' + 1, oc) :: news ∧ IntsAre vs ks ∧ (ks, k) = kGo [0, 1] 2 ((n0 :: n1 :: n2 :: n3 :: nr).take i)) (by exact rfl) (by assumption) (news_front (.tail _ (.tail _ hm)) N₁) ⟨[.int 0 _, .int 1 _], [0, 1], 2, _, _, rfl, rfl, rfl, .cons _ _ (.cons _ _ .nil), rfl⟩ ?_ ?_
  · intro i v m₁ news₁ h tk I io hv h8q
    (try rw [hJ9] at h8q)
    refine xx5 h8q fun vs ks k t c h9q => ?_
    refine aa5 h9q fun hk1 hk2 qe2 hvs hks => ?_
    clear h9q
    subst qe2
    clear h8q
    intro hI hlt haI F₂ N₂
    refine nameQ fun Qt hQt => ?_
    change Fr g' L' h _ at F₂
    change News g' L' h _ at N₂
    have hall : IntsAre (.int n0 t0 :: .int n1 t1 :: .int n2 t2 :: .int n3 t3 :: vr) (n0 :: n1 :: n2 :: n3 :: nr) := .cons _ _ (.cons _ _ (.cons _ _ (.cons _ _ hi)))
    obtain ⟨x, tx, rfl, hx⟩ := ints_at hall hv
    clear hv
    first | refine expo2 F₂ hk1 hk2 ?_ | refine expi2 F₂ hk1 hk2 ?_
    clear F₂
    intro M9 F₂
    have hxr := hr x (List.mem_of_getElem? hx)
    have hKI := ltN (hlt _ (.head _))
    have hi9 : i < 6 := by
      have h1 := (List.getElem?_eq_some_iff.mp hx).1
      simp only [List.length_cons] at h1
      exact Nat.not_le.mp (fun u9 => lin [_, _] [] (.l 1 (.c 6) (.v 1) (.l 1 (.v 0) (.c 2) (.l 1 (.a (.v 1) (.c 1)) (.a (.a (.a (.a (.v 0) (.c 1)) (.c 1)) (.c 1)) (.c 1)) .n))) (by kernel_rfl) u9 hl2 h1)
    have hvl : vs.length ≤ 8 := by
      have h1 := hvs.length
      have h2 := kGo_len ((n0 :: n1 :: n2 :: n3 :: nr).take i) [0, 1] 2
      rw [← hks] at h2
      simp only [List.length_cons, List.length_nil, List.length_take] at h2
      exact Nat.not_lt.mp (fun u9 => lin [_, _, _, _] [] (.l 1 (.a (.c 8) (.c 1)) (.v 1) (.l 1 (.v 0) (.c 2) (.e 1 (.v 1) (.v 2) (.e 1 (.v 2) (.a (.c ((0 + 1) + 1)) (.v 3)) (.l 1 (.v 3) (.a (.a (.a (.a (.v 0) (.c 1)) (.c 1)) (.c 1)) (.c 1)) .n))))) (by kernel_rfl) u9 hl2 h1 h2 (Nat.min_le_right _ _))
    have haK' : K ≠ a := Nat.ne_of_gt haK
    have haK'' : a ≠ K := Nat.ne_of_lt haK
    repeat' ((fail_if_success (with_reducible show wpAny _ _ (exec (PySem.Stmt.For _ _ _ _ _) _) _ _ _)); (fail_if_success (with_reducible show wpAny _ _ (exec (PySem.Stmt.While _ _ _ _) _) _ _ _)); (fail_if_success (with_reducible show wpAny _ _ (pyIter _) _ _ _)); (first | (k_unfold; (try dsimp only)) | (k_end; kc_close) | walk1 | (dsimp only; walk1) | (leave1; walk_say "STEP leave1"; (try dsimp only))))
    rename Fr g' L' _ _ => F₃
    rename News g' L' _ _ => N₃
    refine hQt _ _ ?_
    refine' TurnOk.intro (news' := (K, oLst (vs ++ [.int k t] ++ [.int (kNext k x) ?tk9]) (c + 1)) :: (L' + 1, oc) :: news) F₃ (news_sub N₃ ?e1) ?e2 ?e3
    case e1 => (simp only [List.cons_append, List.nil_append]; walk_at "MINE subl")
    case e2 =>
      intro p hp
      rcases List.mem_cons.mp hp with rfl | hp
      · exact hI (K, oLst (vs ++ [.int k t]) c) (.head _)
      · exact hI _ (.tail _ hp)
    case e3 => exact (xi5 (vs ++ [.int k t]) (ks ++ [k]) _ _ _ ⟨rfl, rfl, rfl, ints_snoc hvs _ _, by rw [kGo_take hx, ← hks]⟩)
  · intro m₁ news₁ h tk h8q
    (try rw [hJ9] at h8q)
    refine xx5 h8q fun vs ks k t c h9q => ?_
    refine aa5 h9q fun hk1 hk2 qe2 hvs hks => ?_
    clear h9q
    subst qe2
    clear h8q
    intro F₂ N₂
    change Fr g' L' h _ at F₂
    change News g' L' h _ at N₂
    first | refine expo2 F₂ hk1 hk2 ?_ | refine expi2 F₂ hk1 hk2 ?_
    clear F₂
    intro M9 F₂
    clear F₁ N₁
    have haK' : K ≠ a := Nat.ne_of_gt haK
    have haK'' : a ≠ K := Nat.ne_of_lt haK
    have hlen : (.int n0 t0 :: .int n1 t1 :: .int n2 t2 :: .int n3 t3 :: vr : List Value).length = (n0 :: n1 :: n2 :: n3 :: nr).length := by simp [hi.length]
    rw [hlen, List.take_length] at hks
    have hvl : vs.length ≤ 8 := by
      have h1 := hvs.length
      have h2 := kGo_len (n0 :: n1 :: n2 :: n3 :: nr) [0, 1] 2
      rw [← hks] at h2
      simp only [List.length_cons, List.length_nil] at h2
      exact Nat.not_lt.mp (fun u9 => lin [_, _, _] [] (.l 1 (.a (.c 8) (.c 1)) (.v 1) (.l 1 (.v 0) (.c 2) (.e 1 (.v 1) (.v 2) (.e 1 (.v 2) (.a (.c ((0 + 1) + 1)) (.a (.a (.a (.a (.v 0) (.c 1)) (.c 1)) (.c 1)) (.c 1))) .n)))) (by kernel_rfl) u9 hl2 h1 h2)
    repeat' ((fail_if_success (with_reducible show wpAny _ _ (exec (PySem.Stmt.For _ _ _ _ _) _) _ _ _)); (fail_if_success (with_reducible show wpAny _ _ (exec (PySem.Stmt.While _ _ _ _) _) _ _ _)); (fail_if_success (with_reducible show wpAny _ _ (pyIter _) _ _ _)); (fail_if_success (with_reducible show wpAny _ _ (exec (PySem.Stmt.If _ _ _ _) _) _ _ _)); (first | (k_unfold; (try dsimp only)) | (k_end; kc_close) | walk1 | (dsimp only; walk1) | (leave1; walk_say "STEP leave1"; (try dsimp only))))
    refine cut_stmt (Mid := fun f s' => Cut (f = .next ∧ ∃ h tk vs c, s' = { s with heap := h, toks := tk } ∧ (Fr g' L' h fun y => if y = Str.ofString "kinds" then some (Value.ref K) else (fun y => if y = Str.ofString "numbers" then some (Value.ref a) else m₁ y) y) ∧ News g' L' h ((K, oLst vs c) :: (L' + 1, oc) :: (a, oLst (.int n0 t0 :: .int n1 t1 :: .int n2 t2 :: .int n3 t3 :: vr) n) :: news) ∧ IntsAre vs (kinds (n0 :: n1 :: n2 :: n3 :: nr)))) ?_ ?_
    · repeat' ((fail_if_success (with_reducible show wpAny _ _ (exec (PySem.Stmt.For _ _ _ _ _) _) _ _ _)); (fail_if_success (with_reducible show wpAny _ _ (exec (PySem.Stmt.While _ _ _ _) _) _ _ _)); (fail_if_success (with_reducible show wpAny _ _ (pyIter _) _ _ _)); (first | (k_unfold; (try dsimp only)) | (k_end; kc_close) | walk1 | (dsimp only; walk1) | (leave1; walk_say "STEP leave1"; (try dsimp only))))
      · rename Fr g' L' _ _ => F₃
        rename News g' L' _ _ => N₃
        refine ⟨rfl, _, _, _, _, rfl, F₃, news_sub N₃ (by walk_at "MINE subl"), ?_⟩
        unfold kinds
        rw [← hks]
        subst_vars
        exact ints_snoc (ints_snoc hvs _ _) _ _
      · refine ⟨rfl, _, _, _, _, rfl, F₂, news_sub N₂ (by walk_at "MINE subl"), ?_⟩
        unfold kinds
        rw [← hks]
        rw [if_neg (by assumption)]
        exact ints_snoc hvs _ _
    · rintro f s' ⟨⟨rfl, h', tk', vs', c', rfl, F₃, N₃, hks'⟩⟩
      have hkl := kinds_len (n0 :: n1 :: n2 :: n3 :: nr) (by simp) (by simp; exact Nat.not_lt.mp (fun u9 => lin [_] [] (.l 1 (.a (.c 2) (.c 1)) (.v 0) (.l 1 (.v 0) (.c 2) .n)) (by kernel_rfl) u9 hl2))
      generalize hks9 : kinds (n0 :: n1 :: n2 :: n3 :: nr) = ks' at hks' hkl
      clear hvs hks N₂ F₂
      dsimp only
      have haL : a ≠ L' + 1 := Nat.ne_of_lt (Nat.lt_succ_of_lt (l1 _ hm))
      (try k_fold)
      repeat' ((fail_if_success (with_reducible show wpAny _ _ (exec (PySem.Stmt.For _ _ _ _ _) _) _ _ _)); (fail_if_success (with_reducible show wpAny _ _ (exec (PySem.Stmt.While _ _ _ _) _) _ _ _)); (fail_if_success (with_reducible show wpAny _ _ (pyIter _) _ _ _)); (fail_if_success (with_reducible show wpAny _ _ (eval (PySem.Expr.ListComp _ _ _ _) _) _ _ _)); (first | (k_unfold; (try dsimp only)) | (k_end; kc_close) | walk1 | (dsimp only; walk1) | (leave1; walk_say "STEP leave1"; (try dsimp only))))
      rename_i T0 q1 lT0 T1 q2 lT1 T2 q3 lT2 R q4 lR q5 oc' F₄ N₄ dc
      have hb0 : 0 ≤ (n0 + (n1 + (n2 + (n3 + nr.sum)))).fmod (ks'.length : Int) := Int.fmod_nonneg_of_pos _ (by exact Int.not_le.mp (fun u9 => lin [_] [] (.L 1 (.z (.v 0)) (.i 0) (.l 1 (.c 7) (.v 0) .n)) (by kernel_rfl) u9 hkl.1))
      have hb1 : (n0 + (n1 + (n2 + (n3 + nr.sum)))).fmod (ks'.length : Int) < (ks'.length : Int) := Int.fmod_lt_of_pos _ (by exact Int.not_le.mp (fun u9 => lin [_] [] (.L 1 (.z (.v 0)) (.i 0) (.l 1 (.c 7) (.v 0) .n)) (by kernel_rfl) u9 hkl.1))
      have hvl' := hks'.length
      have htri := kinds_tri (n0 :: n1 :: n2 :: n3 :: nr)
      rw [hks9] at htri
      have hring : ring (n0 :: n1 :: n2 :: n3 :: nr) = ks'.drop ((n0 + (n1 + (n2 + (n3 + nr.sum)))).fmod (ks'.length : Int)).toNat ++ ks'.take ((n0 + (n1 + (n2 + (n3 + nr.sum)))).fmod (ks'.length : Int)).toNat := by
        unfold ring ringAt
        rw [hks9]
        simp only [List.sum_cons]
      dsimp (zetaDelta := true) only at F₄
      generalize (n0 + (n1 + (n2 + (n3 + nr.sum)))).fmod (ks'.length : Int) = b at hb0 hb1 hring F₄
      refine nameQ fun Q' hQ' => ?_
      refine' wpAny_ListComp_free (cl := [(Str.ofString "lamps", L' + 1)]) (fun _ => true) (fun v y => ∃ k t, v = Value.int k t ∧ y = kindRef T0 T1 T2 k) ?c1 ?c2 ?c3 ?c4 ?c5 ?_ ?c6
      case c1 => rfl
      case c2 => decide
      case c3 => rfl
      case c4 => decide
      case c5 => rfl
      case c6 => intro x; rfl
      repeat' ((fail_if_success (with_reducible show wpAny _ _ (exec (PySem.Stmt.For _ _ _ _ _) _) _ _ _)); (fail_if_success (with_reducible show wpAny _ _ (exec (PySem.Stmt.While _ _ _ _) _) _ _ _)); (fail_if_success (with_reducible show wpAny _ _ (pyIter _) _ _ _)); (first | (k_unfold; (try dsimp only)) | (k_end; kc_close) | walk1 | (dsimp only; walk1) | (leave1; walk_say "STEP leave1"; (try dsimp only))))
      rename Fr g' L' _ _ => F₅
      rename News g' L' _ _ => N₅
      refine comp_list (its := (List.drop b.toNat vs' ++ List.take b.toNat vs').toArray) (by exact rfl) (news_list N₅ (.head _)) (by rw [sizeLine_eq, List.size_toArray]; walk_at "MINE ar") F₅ N₅ ?_ ?_
      · intro C v₁ s₃ m₃ E' hv hn hm₃ hk₃ F₆ N₆
        have hall : IntsAre (List.drop b.toNat vs' ++ List.take b.toNat vs') (ks'.drop b.toNat ++ ks'.take b.toNat) := (hks'.drop _).append (hks'.take _)
        rw [List.toList_toArray] at hv
        obtain ⟨i, hi₁⟩ := List.mem_iff_getElem?.mp hv
        obtain ⟨k₁, t₁, rfl, hk₁⟩ := ints_at hall hi₁
        have ht₁ : Tri k₁ := by
          refine htri _ ?_
          rcases List.mem_append.mp (List.mem_of_getElem? hk₁) with h1 | h1
          · exact List.mem_of_mem_drop h1
          · exact List.mem_of_mem_take h1
        clear hv hi₁ hk₁ hall F₅ N₅
        rcases ht₁ with rfl | rfl | rfl
        all_goals repeat' ((fail_if_success (with_reducible show wpAny _ _ (exec (PySem.Stmt.For _ _ _ _ _) _) _ _ _)); (fail_if_success (with_reducible show wpAny _ _ (exec (PySem.Stmt.While _ _ _ _) _) _ _ _)); (fail_if_success (with_reducible show wpAny _ _ (pyIter _) _ _ _)); (first | (k_unfold; (try dsimp only)) | (k_end; kc_close) | (k_here; (with_reducible refine' compLocal ?_ ?_ ?_ ?_ ?_ ?_); walk_at "MINE go") | (k_here; (with_reducible refine' compCell ?_ ?_ ?_ ?_ ?_ ?c ?_ ?_); (k_dflt (case c => rfl)); walk_at "MINE go") | walk1 | (dsimp only; walk1) | (leave1; walk_say "STEP leave1"; (try dsimp only))))
        all_goals exact ⟨_, _, rfl, fun _ _ e => e⟩
      · intro D' h' tk' ys n' F₆ N₆ hD hP
        have hys := refs_of_kinds (hks'.drop b.toNat |>.append (hks'.take b.toNat)) hP
        rw [← hring] at hys
        subst hys
        refine hQ' _ _ ?_
        dsimp only
        repeat' ((fail_if_success (with_reducible show wpAny _ _ (exec (PySem.Stmt.For _ _ _ _ _) _) _ _ _)); (fail_if_success (with_reducible show wpAny _ _ (exec (PySem.Stmt.While _ _ _ _) _) _ _ _)); (fail_if_success (with_reducible show wpAny _ _ (pyIter _) _ _ _)); (first | (k_unfold; (try dsimp only)) | (k_end; kc_close) | walk1 | (dsimp only; walk1) | (leave1; walk_say "STEP leave1"; (try dsimp only))))
        refine hret _ [_, _, _, _] _ _ (by assumption) (news_sub (r := [(D', _), (T0, _), (T1, _), (T2, _)] ++ news) (by assumption) (by simp only [List.cons_append, List.nil_append]; walk_at "MINE subl")) ⟨D', T0, T1, T2, _, _, _, _, _, _, _, rfl, ?_, ?_, ?_, ?_, ?_, ?_, rfl⟩
        all_goals (refine tokNe ?_; (first | exact fun u9 => lin [_] [] (.e (-1) (.a (.a (.a (.a (.a (.a (.a (.a (.a (.a (.a (.v 0) (.c 1)) (.c 1)) (.c 1)) (.c 1)) (.c 1)) (.c 1)) (.c 1)) (.c 1)) (.c 1)) (.c 1)) (.c 1)) (.a (.a (.a (.a (.a (.a (.a (.a (.a (.a (.a (.a (.a (.a (.a (.a (.v 0) (.c 1)) (.c 1)) (.c 1)) (.c 1)) (.c 1)) (.c 1)) (.c 1)) (.c 1)) (.c 1)) (.c 1)) (.c 1)) (.c 1)) (.c 1)) (.c 1)) (.c 1)) (.c 1)) .n) (by kernel_rfl) u9 | exact fun u9 => lin [_] [] (.e (-1) (.a (.a (.a (.a (.a (.a (.v 0) (.c 1)) (.c 1)) (.c 1)) (.c 1)) (.c 1)) (.c 1)) (.a (.a (.a (.a (.a (.a (.a (.a (.a (.a (.a (.a (.a (.a (.a (.a (.v 0) (.c 1)) (.c 1)) (.c 1)) (.c 1)) (.c 1)) (.c 1)) (.c 1)) (.c 1)) (.c 1)) (.c 1)) (.c 1)) (.c 1)) (.c 1)) (.c 1)) (.c 1)) (.c 1)) .n) (by kernel_rfl) u9 | exact fun u9 => lin [_] [] (.e (-1) (.a (.a (.a (.a (.a (.a (.v 0) (.c 1)) (.c 1)) (.c 1)) (.c 1)) (.c 1)) (.c 1)) (.a (.a (.a (.a (.a (.a (.a (.a (.a (.a (.a (.v 0) (.c 1)) (.c 1)) (.c 1)) (.c 1)) (.c 1)) (.c 1)) (.c 1)) (.c 1)) (.c 1)) (.c 1)) (.c 1)) .n) (by kernel_rfl) u9 | exact fun u9 => lin [_] [] (.e 1 (.a (.a (.a (.a (.a (.a (.a (.a (.a (.a (.a (.a (.a (.a (.a (.a (.v 0) (.c 1)) (.c 1)) (.c 1)) (.c 1)) (.c 1)) (.c 1)) (.c 1)) (.c 1)) (.c 1)) (.c 1)) (.c 1)) (.c 1)) (.c 1)) (.c 1)) (.c 1)) (.c 1)) (.c 0) .n) (by kernel_rfl) u9 | exact fun u9 => lin [_] [] (.e 1 (.a (.a (.a (.a (.a (.a (.a (.a (.a (.a (.a (.v 0) (.c 1)) (.c 1)) (.c 1)) (.c 1)) (.c 1)) (.c 1)) (.c 1)) (.c 1)) (.c 1)) (.c 1)) (.c 1)) (.c 0) .n) (by kernel_rfl) u9 | exact fun u9 => lin [_] [] (.e 1 (.a (.a (.a (.a (.a (.a (.v 0) (.c 1)) (.c 1)) (.c 1)) (.c 1)) (.c 1)) (.c 1)) (.c 0) .n) (by kernel_rfl) u9))
end
section
local macro_rules | `(tactic| walk_at "compareOp NotEq ref ref") => `(tactic| (k_here; (with_reducible refine' ne_kind ?_ ?_ ?_ ?_ ?_ ?_); walk_at "MINE go"))
local macro_rules | `(tactic| walk_at "compareOp Eq ref ref") => `(tactic| (k_here; (with_reducible refine' eq_kind ?_ ?_ ?_ ?_ ?_ ?_); walk_at "MINE go"))
local macro_rules | `(tactic| walk_at "setItem ref int") => `(tactic| (k_here; (with_reducible refine set_at (by walk_at "MINE s0") (by walk_at "MINE s0") (by walk_at "MINE mem") (by walk_at "MINE bes") (by walk_at "MINE ar") (by walk_at "MINE ar") (by walk_at "MINE ar") ?_); walk_at "MINE o2"))
local macro_rules | `(tactic| walk_at "delItem ref int") => `(tactic| (k_here; (with_reducible refine del_at (by walk_at "MINE s0") (by walk_at "MINE s0") (by walk_at "MINE mem") (by walk_at "MINE bes") (by walk_at "MINE ar") (by walk_at "MINE ar") (by walk_at "MINE ar") ?_); walk_at "MINE o2"))
local macro_rules | `(tactic| walk_at "inplaceOp Add ref ref") => `(tactic| (k_here; (with_reducible refine iadd_at (by walk_at "MINE s0") (by walk_at "MINE s0") (by walk_at "MINE mem") (by walk_at "MINE mem") (by walk_at "MINE bes") (by walk_at "MINE ar") (by walk_at "MINE ar") ?_); walk_at "MINE o2"))
local macro_rules | `(tactic| walk_at "inplaceOp Add bytes bytes") => `(tactic| (k_here; (with_reducible refine' iadd_bytes ?_ ?_); walk_at "MINE go"))

theorem c_ne (w : World) (p : Program) (loose : List Str) (mean : ExcName → Option Value) (mg mb : Str → Option Value) (T0 T1 T2 : Addr) (r g b k j : Int) (news : Led) (H : Lmp T0 T1 T2 r g b news) (hk' : Tri k) (hj : Tri j) :
    CT w p loose mean mg mb 93 [.ref (kA T0 T1 T2 k), .ref (kA T0 T1 T2 j)] 1 news (fun r own => r = .bool (!decide (k = j)) ∧ own = []) := by
  intro dp un gd cn cs a9 ccd cl outer A₀ base h₀ L m s Q E B F X N T hk hdp hu hret
  refine wpAny_call ?_
  k_dflt (refine' code_def (binds := [(Str.ofString "a", Value.ref (kA T0 T1 T2 k)), (Str.ofString "b", Value.ref (kA T0 T1 T2 j))]) ?k1 ?k2 ?k3 ?k4 ?k5 ?kA ?kF ?kK ?k6 ?k7 ?k8 ?k9 ?kB ?_ ?c2 ?c3 ?c4 ?c5; (case kA => exact rfl); (case kF => exact rfl); (case kK => assumption); (case k1 => k_asm); (case k2 => k_asm); (case k3 => k_asm); (case k4 => k_asm); (case k5 => k_asm); (case k6 => k_is); (case k7 => k_is); (case k8 => ktr_room); (case k9 => exact BindsTo.of_eq rfl); (case c5 => decide); (case kB => exact locs rfl); (case c2 => exact rfl); (case c3 => exact rfl); (case c4 => exact rfl); k_whole; intro g' L' h' FG' F' N' B' X' T'; (try dsimp only); (try k_lift B'); (try k_fold))
  k_steps
  all_goals exact hret _ [] _ _ (by assumption) (by assumption) ord0 ⟨rfl, rfl⟩
theorem c_setitem (w : World) (p : Program) (loose : List Str) (mean : ExcName → Option Value) (mg mb : Str → Option Value) (D : Addr) (l : List Value) (i : Int) (ti : Tok) (v : Value) (n : Nat) (news need : Led) (hm : (D, oLst l n) ∈ news) (hb : Beside D need news) (h0 : 0 ≤ i) (h1 : i < l.length) (hz : l.length ≤ 4096) :
    CTM w p loose mean mg mb 114 [.ref D, .int i ti, v] 1 news (fun r news' => r = .none ∧ news' = (D, oLst (l.set i.toNat v) n) :: need) := by
  intro dp un gd cn cs a9 ccd cl outer A₀ base h₀ L m s Q E B F X N T hk hdp hu hret
  refine wpAny_call ?_
  k_dflt (refine' code_def (binds := [(Str.ofString "a", Value.ref D), (Str.ofString "b", Value.int i ti), (Str.ofString "c", v)]) ?k1 ?k2 ?k3 ?k4 ?k5 ?kA ?kF ?kK ?k6 ?k7 ?k8 ?k9 ?kB ?_ ?c2 ?c3 ?c4 ?c5; (case kA => exact rfl); (case kF => exact rfl); (case kK => assumption); (case k1 => k_asm); (case k2 => k_asm); (case k3 => k_asm); (case k4 => k_asm); (case k5 => k_asm); (case k6 => k_is); (case k7 => k_is); (case k8 => ktr_room); (case k9 => exact BindsTo.of_eq rfl); (case c5 => decide); (case kB => exact locs rfl); (case c2 => exact rfl); (case c3 => exact rfl); (case c4 => exact rfl); k_whole; intro g' L' h' FG' F' N' B' X' T'; (try dsimp only); (try k_lift B'); (try k_fold))
  k_steps
  all_goals exact hret _ _ _ _ (by assumption) (by assumption) ⟨rfl, rfl⟩
theorem c_delitem (w : World) (p : Program) (loose : List Str) (mean : ExcName → Option Value) (mg mb : Str → Option Value) (D : Addr) (l : List Value) (i : Int) (ti : Tok) (n : Nat) (news need : Led) (hm : (D, oLst l n) ∈ news) (hb : Beside D need news) (h0 : 0 ≤ i) (h1 : i < l.length) (hz : l.length ≤ 4096) :
    CTM w p loose mean mg mb 107 [.ref D, .int i ti] 1 news (fun r news' => r = .none ∧ news' = (D, oLst (l.eraseIdx i.toNat) (n + 1)) :: need) := by
  intro dp un gd cn cs a9 ccd cl outer A₀ base h₀ L m s Q E B F X N T hk hdp hu hret
  refine wpAny_call ?_
  k_dflt (refine' code_def (binds := [(Str.ofString "a", Value.ref D), (Str.ofString "b", Value.int i ti)]) ?k1 ?k2 ?k3 ?k4 ?k5 ?kA ?kF ?kK ?k6 ?k7 ?k8 ?k9 ?kB ?_ ?c2 ?c3 ?c4 ?c5; (case kA => exact rfl); (case kF => exact rfl); (case kK => assumption); (case k1 => k_asm); (case k2 => k_asm); (case k3 => k_asm); (case k4 => k_asm); (case k5 => k_asm); (case k6 => k_is); (case k7 => k_is); (case k8 => ktr_room); (case k9 => exact BindsTo.of_eq rfl); (case c5 => decide); (case kB => exact locs rfl); (case c2 => exact rfl); (case c3 => exact rfl); (case c4 => exact rfl); k_whole; intro g' L' h' FG' F' N' B' X' T'; (try dsimp only); (try k_lift B'); (try k_fold))
  k_steps
  all_goals exact hret _ _ _ _ (by assumption) (by assumption) ⟨rfl, rfl⟩
theorem c_iaddL (w : World) (p : Program) (loose : List Str) (mean : ExcName → Option Value) (mg mb : Str → Option Value) (D b : Addr) (l l2 : List Value) (n k : Nat) (news need : Led) (hm : (D, oLst l n) ∈ news) (hm2 : (b, oLst l2 k) ∈ news) (hb : Beside D need news) (hz : l.length ≤ 4096) (hz2 : l2.length ≤ 4096) :
    CTM w p loose mean mg mb 121 [.ref D, .ref b] 1 news (fun r news' => ∃ n', r = .ref D ∧ news' = (D, oLst (l ++ l2) n') :: need) := by
  intro dp un gd cn cs a9 ccd cl outer A₀ base h₀ L m s Q E B F X N T hk hdp hu hret
  refine wpAny_call ?_
  k_dflt (refine' code_def (binds := [(Str.ofString "a", Value.ref D), (Str.ofString "b", Value.ref b)]) ?k1 ?k2 ?k3 ?k4 ?k5 ?kA ?kF ?kK ?k6 ?k7 ?k8 ?k9 ?kB ?_ ?c2 ?c3 ?c4 ?c5; (case kA => exact rfl); (case kF => exact rfl); (case kK => assumption); (case k1 => k_asm); (case k2 => k_asm); (case k3 => k_asm); (case k4 => k_asm); (case k5 => k_asm); (case k6 => k_is); (case k7 => k_is); (case k8 => ktr_room); (case k9 => exact BindsTo.of_eq rfl); (case c5 => decide); (case kB => exact locs rfl); (case c2 => exact rfl); (case c3 => exact rfl); (case c4 => exact rfl); k_whole; intro g' L' h' FG' F' N' B' X' T'; (try dsimp only); (try k_lift B'); (try k_fold))
  k_steps
  all_goals exact hret _ _ _ _ (by assumption) (by assumption) ⟨_, rfl, rfl⟩
theorem c_iaddB (w : World) (p : Program) (loose : List Str) (mean : ExcName → Option Value) (mg mb : Str → Option Value) (xs ys : Array UInt8) (t u : Tok) (news : Led) (hz : xs.size + ys.size ≤ 16777216) :
    CT w p loose mean mg mb 121 [.bytes xs t, .bytes ys u] 1 (news) (fun r own => ∃ t', r = .bytes (xs ++ ys) t' ∧ own = []) := by
  intro dp un gd cn cs a9 ccd cl outer A₀ base h₀ L m s Q E B F X N T hk hdp hu hret
  refine wpAny_call ?_
  k_dflt (refine' code_def (binds := [(Str.ofString "a", Value.bytes xs t), (Str.ofString "b", Value.bytes ys u)]) ?k1 ?k2 ?k3 ?k4 ?k5 ?kA ?kF ?kK ?k6 ?k7 ?k8 ?k9 ?kB ?_ ?c2 ?c3 ?c4 ?c5; (case kA => exact rfl); (case kF => exact rfl); (case kK => assumption); (case k1 => k_asm); (case k2 => k_asm); (case k3 => k_asm); (case k4 => k_asm); (case k5 => k_asm); (case k6 => k_is); (case k7 => k_is); (case k8 => ktr_room); (case k9 => exact BindsTo.of_eq rfl); (case c5 => decide); (case kB => exact locs rfl); (case c2 => exact rfl); (case c3 => exact rfl); (case c4 => exact rfl); k_whole; intro g' L' h' FG' F' N' B' X' T'; (try dsimp only); (try k_lift B'); (try k_fold))
  k_steps
  all_goals exact hret _ [] _ _ (by assumption) (by assumption) ord0 ⟨_, rfl, rfl⟩
theorem c_ixor (w : World) (p : Program) (loose : List Str) (mean : ExcName → Option Value) (mg mb : Str → Option Value) (x y : Int) (t u : Tok) (news : Led) :
    CT w p loose mean mg mb 135 [.int x t, .int y u] 1 (news) (fun r own => ∃ t', r = .int (Builtin.bitXor x y) t' ∧ own = []) := by
  intro dp un gd cn cs a9 ccd cl outer A₀ base h₀ L m s Q E B F X N T hk hdp hu hret
  refine wpAny_call ?_
  k_dflt (refine' code_def (binds := [(Str.ofString "a", Value.int x t), (Str.ofString "b", Value.int y u)]) ?k1 ?k2 ?k3 ?k4 ?k5 ?kA ?kF ?kK ?k6 ?k7 ?k8 ?k9 ?kB ?_ ?c2 ?c3 ?c4 ?c5; (case kA => exact rfl); (case kF => exact rfl); (case kK => assumption); (case k1 => k_asm); (case k2 => k_asm); (case k3 => k_asm); (case k4 => k_asm); (case k5 => k_asm); (case k6 => k_is); (case k7 => k_is); (case k8 => ktr_room); (case k9 => exact BindsTo.of_eq rfl); (case c5 => decide); (case kB => exact locs rfl); (case c2 => exact rfl); (case c3 => exact rfl); (case c4 => exact rfl); k_whole; intro g' L' h' FG' F' N' B' X' T'; (try dsimp only); (try k_lift B'); (try k_fold))
  k_steps
  all_goals exact hret _ [] _ _ (by assumption) (by assumption) ord0 ⟨_, rfl, rfl⟩
end
section
local macro_rules | `(tactic| walk_at "compareOp Is ref ref") => `(tactic| (k_here; (with_reducible refine' is_kind ?_ ?_ ?_ ?_ ?_); (k_dflt (all_goals (try walk_at "MINE sd"))); intro v9 hv9; cases v9))
local macro_rules | `(tactic| walk_at "compareOp NotEq ref ref") => `(tactic| (k_here; (with_reducible refine' ne_kind ?_ ?_ ?_ ?_ ?_ ?_); walk_at "MINE go"))
local macro_rules | `(tactic| walk_at "compareOp Eq ref ref") => `(tactic| (k_here; (with_reducible refine' eq_kind ?_ ?_ ?_ ?_ ?_ ?_); walk_at "MINE go"))

theorem c_countOf (w : World) (p : Program) (loose : List Str) (mean : ExcName → Option Value) (mg mb : Str → Option Value) (D T0 T1 T2 : Addr) (ks : List Int) (r g b k : Int) (n : Nat) (news : Led) (hm : (D, oLst (ks.map (kindRef T0 T1 T2)) n) ∈ news) (H : Lmp T0 T1 T2 r g b news) (hks : ∀ x ∈ ks, Tri x) (hk' : Tri k) (hz : ks.length ≤ 100) :
    CT w p loose mean mg mb 100 [.ref D, .ref (kA T0 T1 T2 k)] 2 news (fun r own => ∃ t', r = .int (ks.count k : Nat) t' ∧ own = []) := by
  intro dp un gd cn cs a9 ccd cl outer A₀ base h₀ L m s Q E B F X N T hk hdp hu hret
  refine wpAny_call ?_
  k_dflt (refine' code_def (binds := [(Str.ofString "a", Value.ref D), (Str.ofString "b", Value.ref (kA T0 T1 T2 k))]) ?k1 ?k2 ?k3 ?k4 ?k5 ?kA ?kF ?kK ?k6 ?k7 ?k8 ?k9 ?kB ?_ ?c2 ?c3 ?c4 ?c5; (case kA => exact rfl); (case kF => exact rfl); (case kK => assumption); (case k1 => k_asm); (case k2 => k_asm); (case k3 => k_asm); (case k4 => k_asm); (case k5 => k_asm); (case k6 => k_is); (case k7 => k_is); (case k8 => ktr_room); (case k9 => exact BindsTo.of_eq rfl); (case c5 => decide); (case kB => exact locs rfl); (case c2 => exact rfl); (case c3 => exact rfl); (case c4 => exact rfl); k_whole; intro g' L' h' FG' F' N' B' X' T'; (try dsimp only); (try k_lift B'); (try k_fold))
  repeat' ((fail_if_success (with_reducible show wpAny _ _ (exec (PySem.Stmt.For _ _ _ _ _) _) _ _ _)); (fail_if_success (with_reducible show wpAny _ _ (exec (PySem.Stmt.While _ _ _ _) _) _ _ _)); (fail_if_success (with_reducible show wpAny _ _ (pyIter _) _ _ _)); (first | (k_unfold; (try dsimp only)) | (k_end; kc_close) | walk1 | (dsimp only; walk1) | (leave1; walk_say "STEP leave1"; (try dsimp only))))
  rename Fr g' L' _ _ => F₁
  rename News g' L' _ _ => N₁
  refine For_invVF F₁ (by exact rfl) (by exact rfl) ?_
  repeat' ((fail_if_success (with_reducible show wpAny _ _ (exec (PySem.Stmt.For _ _ _ _ _) _) _ _ _)); (fail_if_success (with_reducible show wpAny _ _ (exec (PySem.Stmt.While _ _ _ _) _) _ _ _)); (fail_if_success (with_reducible show wpAny _ _ (pyIter _) _ _ _)); (first | (k_unfold; (try dsimp only)) | (k_end; kc_close) | walk1 | (dsimp only; walk1) | (leave1; walk_say "STEP leave1"; (try dsimp only))))
  refine iter_made (l := D) (its := ks.map (kindRef T0 T1 T2)) (n := n) (fun i m nw => ∃ c t, m (Str.ofString "count") = some (.int c t) ∧ m (Str.ofString "b") = some (.ref (kA T0 T1 T2 k)) ∧ nw = news ∧ c = ((ks.take i).count k : Nat)) (by exact rfl) (by assumption) (news_front hm (by assumption)) ⟨0, _, rfl, rfl, rfl, rfl⟩ ?_ ?_
  · intro i v m₁ news₁ h tk I io hv h8q
    (try rw [hJ9] at h8q)
    refine xx2 h8q fun c t h9q => ?_
    refine aa4 h9q fun e1 e2 qe2 hc => ?_
    clear h9q
    subst qe2
    clear h8q
    intro hI hlt haI F₂ N₂
    refine nameQ fun Qt hQt => ?_
    change Fr g' L' h _ at F₂
    change News g' L' h _ at N₂
    rw [List.getElem?_map] at hv
    obtain ⟨x, hx, rfl⟩ := Option.map_eq_some_iff.mp hv
    clear hv
    first | refine expo2 F₂ e1 e2 ?_ | refine expi2 F₂ e1 e2 ?_
    clear F₂
    intro M9 F₂
    have hxt := hks x (List.mem_of_getElem? hx)
    have H' : Lmp T0 T1 T2 r g b ((I, io) :: (D, oLst (ks.map (kindRef T0 T1 T2)) n) :: news₁) := H.mono fun q hq => .tail _ (.tail _ hq)
    repeat' ((fail_if_success (with_reducible show wpAny _ _ (exec (PySem.Stmt.For _ _ _ _ _) _) _ _ _)); (fail_if_success (with_reducible show wpAny _ _ (exec (PySem.Stmt.While _ _ _ _) _) _ _ _)); (fail_if_success (with_reducible show wpAny _ _ (pyIter _) _ _ _)); (first | (k_unfold; (try dsimp only)) | (k_end; kc_close) | walk1 | (dsimp only; walk1) | (leave1; walk_say "STEP leave1"; (try dsimp only))))
    · refine hQt _ _ ?_
      refine' TurnOk.intro (news' := news₁) ?F ?N hI ?e
      case F => assumption
      case N => assumption
      case e => exact (xi2 _ _ ⟨rfl, rfl, rfl, by rw [count_take k hx, if_pos (by assumption), hc]; rfl⟩)
    · refine hQt _ _ ?_
      refine' TurnOk.intro (news' := news₁) ?F ?N hI ?e
      case F => assumption
      case N => assumption
      case e => exact (xi2 _ _ ⟨rfl, rfl, rfl, by rw [count_take k hx, if_neg (by assumption), hc]; rfl⟩)
    · rename true = true → x = k => hv
      refine hQt _ _ ?_
      refine' TurnOk.intro (news' := news₁) ?F ?N hI ?e
      case F => assumption
      case N => assumption
      case e => exact (xi2 _ _ ⟨rfl, rfl, rfl, by rw [count_take k hx, if_pos (hv rfl), hc]; rfl⟩)
  · intro m₁ news₁ h tk h8q
    (try rw [hJ9] at h8q)
    refine xx2 h8q fun c t h9q => ?_
    refine aa4 h9q fun e1 e2 qe2 hc => ?_
    clear h9q
    subst qe2
    clear h8q
    intro F₂ N₂
    change Fr g' L' h _ at F₂
    change News g' L' h _ at N₂
    first | refine expo2 F₂ e1 e2 ?_ | refine expi2 F₂ e1 e2 ?_
    clear F₂
    intro M9 F₂
    rw [List.length_map, List.take_length] at hc
    subst hc
    repeat' ((fail_if_success (with_reducible show wpAny _ _ (exec (PySem.Stmt.For _ _ _ _ _) _) _ _ _)); (fail_if_success (with_reducible show wpAny _ _ (exec (PySem.Stmt.While _ _ _ _) _) _ _ _)); (fail_if_success (with_reducible show wpAny _ _ (pyIter _) _ _ _)); (first | (k_unfold; (try dsimp only)) | (k_end; kc_close) | walk1 | (dsimp only; walk1) | (leave1; walk_say "STEP leave1"; (try dsimp only))))
    exact hret _ [] _ _ (by assumption) (news_sub (by assumption) (fun q hq => .tail _ hq)) ord0 ⟨_, rfl, rfl⟩
end
section
theorem lab_at {prog : Program} {w : World} {A : Around} {E : Value → Shared → Prop} {s : Shared} {h₀ : Heap} {L D : Addr} {news : Led} {n : Nat} {value slice : PySem.Expr} {Q : Value → Shared → Prop} {t0 t1 t2 t3 t4 t5 u : Tok} {k : Int} (N : News h₀ L s.heap news)
    (hm : (D, oLst [.bytes #[34, 40, 34] t0, .bytes #[34, 41, 34] t1, .bytes #[34, 97, 34] t2, .bytes #[34, 40, 40, 34] t3, .bytes #[34, 92, 34, 40, 34] t4, .bytes #[34, 92, 92, 41, 34] t5] n) ∈ news) (h0 : 0 ≤ k) (h1 : k < 6)
    (h : ∀ t', Q (.bytes (labB ⟨k.toNat % 6, Nat.mod_lt _ (by decide)⟩).toArray t') s)
    (hs : subscripted slice false (.ref D) (.int k u) = operate [.ref D, .int k u] (getItem (.ref D) (.int k u)) := by with_unfolding_all rfl) (hg : ∀ r, letTemporaryGo value (.ref D) r = pure () := by intro _; with_unfolding_all rfl) :
    wpAny (model prog w) A (subscriptTail value slice (.ref D) (.int k u)) Q E s :=
  get_ex N hm h0 (lab_get t0 t1 t2 t3 t4 t5 k h0 h1) (show 6 < 2 ^ 60 by decide) h hs hg
local macro_rules | `(tactic| walk_at "call builtin:max") => `(tactic| (k_here; (with_reducible refine' max2_keep ?_ ?_ ?_ ?_); walk_at "MINE go"))
local macro_rules | `(tactic| walk_at "call builtin:min") => `(tactic| (k_here; (with_reducible refine' min2_keep ?_ ?_ ?_ ?_); walk_at "MINE go"))
local macro_rules | `(tactic| walk_at "subscriptTail") => `(tactic| (k_here; (with_reducible refine get_int (by walk_at "MINE s0") (by walk_at "MINE mem") (by k_dflt assumption) (by walk_at "MINE ar") (by walk_at "MINE ar") (by walk_at "MINE ar") ?_); walk_at "MINE o2"))
local macro_rules | `(tactic| walk_at "subscriptTail") => `(tactic| (k_here; (with_reducible refine lab_at (by walk_at "MINE s0") (by walk_at "MINE mem") (by walk_at "MINE ar") (by walk_at "MINE ar") ?_); walk_at "MINE o2"))
local macro_rules | `(tactic| walk_at "subscriptTail") => `(tactic| (k_here; (with_reducible refine get_kind (by walk_at "MINE s0") (by walk_at "MINE mem") (by walk_at "MINE ar") (by walk_at "MINE ar") (by walk_at "MINE ar") ?_); walk_at "MINE o2"))
local macro_rules | `(tactic| walk_at "MINE go3") => `(tactic| first | ((with_reducible refine' c_lackT ..); walk_at "MINE cs") | ((with_reducible refine' c_lackS ..); walk_at "MINE cs"))
local macro_rules | `(tactic| walk_at "MINE goV") => `(tactic| first | ((with_reducible refine' c_ne ..); walk_at "MINE cs") | ((with_reducible refine' c_countOf ..); walk_at "MINE cs"))
local macro_rules | `(tactic| walk_at "call ref") => `(tactic| (k_here; k_dflt (refine' goM ?F ?N ?T ?c ?t ?B ?X ?hk ?hd ?hu ?_; (case F => k_asm); (case N => k_asm); (case T => k_asm); (case c => walk_at "MINE goM"); (case t => first | exact m1g | exact m1c); (case B => k_asm); (case X => k_asm); (case hk => first | exact rfl | assumption); (case hd => ktr_room); (case hu => ktr_units)); walk_at "MINE on"))
local macro_rules | `(tactic| walk_at "MINE goM") => `(tactic| first | ((with_reducible refine' c_iaddL ..); walk_at "MINE cs") | ((with_reducible refine' c_setitem ..); walk_at "MINE cs") | ((with_reducible refine' c_delitem ..); walk_at "MINE cs"))
local macro_rules | `(tactic| walk_at "compareOp NotEq ref ref") => `(tactic| (k_here; (with_reducible refine' ne_t3_same ?_ ?_ ?_ ?_ ?_); walk_at "MINE go"))
local macro_rules | `(tactic| walk_at "eval Name") => `(tactic| (k_here; (with_reducible show wpAny _ _ (eval (PySem.Expr.Name (Str.ofString "grey") _) (envOfC _ _ _ _ _)) _ _ _); k_dflt (refine' frameCell ?_ ?_ ?_ ?_ ?_ ?c ?_ ?_; (case c => rfl)); walk_at "MINE go"))
local macro_rules | `(tactic| walk_at "subscriptTail") => `(tactic| (k_here; (with_reducible refine get_at (by walk_at "MINE s0") (by walk_at "MINE mem") (by walk_at "MINE ar") (by k_dflt assumption) (by walk_at "MINE ar") ?_); walk_at "MINE o2"))
local macro_rules | `(tactic| walk_at "setItem ref int") => `(tactic| (k_here; (with_reducible refine set_at (by walk_at "MINE s0") (by walk_at "MINE s0") (by walk_at "MINE mem") (by walk_at "MINE bes") (by walk_at "MINE ar") (by walk_at "MINE ar") (by walk_at "MINE ar") ?_); walk_at "MINE o2"))
local macro_rules | `(tactic| walk_at "MINE sd") => `(tactic| first | ((fail_if_success fail_if_success with_reducible refine' gP _); exact Lmp.mono (by assumption) (by walk_at "MINE sub")) | ((fail_if_success fail_if_success with_reducible refine' gT _); exact tri_at (by assumption) (by lia)))

theorem c_line (w : World) (p : Program) (loose : List Str) (mean : ExcName → Option Value) (mg mb : Str → Option Value) (RG NU T0 T1 T2 : Addr) (rg ns : List Int) (nvals : List Value) (gr r g b : Int) (tg : Tok) (nR nN : Nat) (news : Led) (hgr : gr = r + g + b)
    (hR : (RG, oLst (rg.map (kindRef T0 T1 T2)) nR) ∈ news) (hN : (NU, oLst nvals nN) ∈ news) (hns : IntsAre nvals ns) (H : Lmp T0 T1 T2 r g b news)
    (hl1 : 4 ≤ ns.length) (hl2 : ns.length ≤ 6) (hr1 : 7 ≤ rg.length) (hr2 : rg.length ≤ 10) (htri : ∀ k ∈ rg, Tri k) (hls0 : LsOk rg) :
    CTN w p loose mean mg mb 164 [.ref RG, .int gr tg, .ref NU] 12 news (RetLine rg) := by
  intro dp un gd cn cs a9 ccd cl outer A₀ base h₀ L m s Q E B F X N T hk hdp hu hret
  refine wpAny_call ?_
  k_dflt (refine' code_defC (binds := [(Str.ofString "ring", Value.ref RG), (Str.ofString "grey", Value.int gr tg), (Str.ofString "numbers", Value.ref NU)]) ?k1 ?k2 ?k3 ?k4 ?k5 ?kA ?kF ?kK ?k6 ?k7 ?k8 ?k9 ?kB ?kD ?_ ?c2 ?c3 ?c4; (case kA => exact rfl); (case kF => exact rfl); (case kK => assumption); (case k1 => k_asm); (case k2 => k_asm); (case k3 => k_asm); (case k4 => k_asm); (case k5 => k_asm); (case k6 => k_is); (case k7 => k_is); (case k8 => ktr_room); (case k9 => exact BindsTo.of_eq rfl); (case kB => exact rfl); (case kD => decide +kernel); (case c2 => exact rfl); (case c3 => exact rfl); (case c4 => exact rfl); k_whole; intro g' L' h' tk' cells' FG' F' N' Y' B' X' T' l1; (try k_lt l1); k_cells Y'; (try simp only [List.cons_append, List.nil_append] at N'); (try dsimp only); (try k_lift B'); (try k_fold))
  repeat' ((fail_if_success (with_reducible show wpAny _ _ (exec (PySem.Stmt.For _ _ _ _ _) _) _ _ _)); (fail_if_success (with_reducible show wpAny _ _ (exec (PySem.Stmt.While _ _ _ _) _) _ _ _)); (fail_if_success (with_reducible show wpAny _ _ (pyIter _) _ _ _)); (first | (k_unfold; (try dsimp only)) | (k_end; kc_close) | walk1 | (dsimp only; walk1) | (leave1; walk_say "STEP leave1"; (try dsimp only))))
  rename_i oc d1 LB q1 lLB q2 t2 m2 DL cD q4 lDL q5 t5 m5 SD q7 lSD q8 t8 m8 PL q10 lPL q11 t11 m11 F₁ N₁
  dsimp only [AllLt] at lDL
  have hnl : nvals.length = ns.length := hns.length
  have hSP : SD ≠ PL := neN (Nat.ne_of_lt lPL.1)
  refine For_invVF F₁ (by exact rfl) (by exact rfl) ?_
  repeat' ((fail_if_success (with_reducible show wpAny _ _ (exec (PySem.Stmt.For _ _ _ _ _) _) _ _ _)); (fail_if_success (with_reducible show wpAny _ _ (exec (PySem.Stmt.While _ _ _ _) _) _ _ _)); (fail_if_success (with_reducible show wpAny _ _ (pyIter _) _ _ _)); (first | (k_unfold; (try dsimp only)) | (k_end; kc_close) | walk1 | (dsimp only; walk1) | (leave1; walk_say "STEP leave1"; (try dsimp only))))
  rename IsRange _ _ _ _ _ _ _ _ => R₂
  rename Fr g' L' _ _ => F₂
  rename News g' L' _ _ => N₂
  have hb1 : ((rg.length : Int) - 1 - 0).toNat = rg.length - 1 := by exact linn [_, _, _] [] (.v 1) (.v 2) (.E (-1) (.z (.v 1)) (.s (.s (.z (.v 0)) (.i 1)) (.i 0)) (.e 1 (.a (.v 2) (.c 1)) (.v 0) .n)) (by kernel_rfl) (Int.toNat_of_nonneg (Int.not_lt.mp (fun u9 => lin [_] [] (.L 1 (.a (.s (.s (.z (.v 0)) (.i 1)) (.i 0)) (.i 1)) (.i 0) (.l 1 (.c 7) (.v 0) .n)) (by kernel_rfl) u9 hr1))) (Nat.sub_add_cancel (Nat.not_lt.mp (fun u9 => lin [_] [] (.l 1 (.a (.v 0) (.c 1)) (.c 1) (.l 1 (.c 7) (.v 0) .n)) (by kernel_rfl) u9 hr1)))
  generalize hLBo : W.listOf #[Value.bytes #[34, 40, 34] tk', Value.bytes #[34, 41, 34] (tk' + 1), Value.bytes #[34, 97, 34] (tk' + 1 + 1), Value.bytes #[34, 40, 40, 34] (tk' + 1 + 1 + 1), Value.bytes #[34, 92, 34, 40, 34] (tk' + 1 + 1 + 1 + 1), Value.bytes #[34, 92, 92, 41, 34] (tk' + 1 + 1 + 1 + 1 + 1)] 0 = LBo at N₂
  have hDS : DL ≠ SD := neN (Nat.ne_of_lt lSD.1)
  have hDP : DL ≠ PL := neN (Nat.ne_of_lt lPL.2.1)
  have hbase : ∀ q ∈ (LB, LBo) :: (L' + 1, oc) :: news, q.1 ≠ SD ∧ q.1 ≠ PL ∧ q.1 ≠ DL := by
    intro q hq
    rcases List.mem_cons.mp hq with rfl | hq
    · exact ⟨Nat.ne_of_lt lSD.2.1, Nat.ne_of_lt lPL.2.2.1, Nat.ne_of_lt lDL.1⟩
    · rcases List.mem_cons.mp hq with rfl | hq
      · exact ⟨Nat.ne_of_lt lSD.2.2.1, Nat.ne_of_lt lPL.2.2.2.1, Nat.ne_of_lt lDL.2.1⟩
      · exact ⟨Nat.ne_of_lt (ktn_ltOf lSD.2.2.2 q hq), Nat.ne_of_lt (ktn_ltOf lPL.2.2.2.2 q hq), Nat.ne_of_lt (ktn_ltOf lDL.2.2 q hq)⟩
  refine iter_rangeJ (r := _) (n := rg.length - 1) (news := (PL, oLst [] 0) :: (SD, oLst [] 0) :: (DL, oLst (rg.map (kindRef T0 T1 T2)) cD) :: (LB, LBo) :: (L' + 1, oc) :: news) (fun i m nw => ∃ sv pv k1 k2 fz, m (Str.ofString "sides") = some (.ref SD) ∧ m (Str.ofString "places") = some (.ref PL) ∧ m (Str.ofString "lamps") = some (.ref DL) ∧ m (Str.ofString "labels") = some (.ref LB) ∧ m (Str.ofString "numbers") = some (.ref NU) ∧
      nw = (PL, oLst pv k2) :: (SD, oLst sv k1) :: (DL, oLst (rg.map (kindRef T0 T1 T2)) cD) :: fz ∧ Paired (SideOk fz) sv ((List.range i).map (blk0 ns rg)) ∧ Paired (PlaceOk fz) pv ((List.range i).map fun k => (k, 1)) ∧
      (∀ q ∈ fz, q.1 ≠ SD ∧ q.1 ≠ PL ∧ q.1 ≠ DL) ∧ (∀ q ∈ (LB, LBo) :: (L' + 1, oc) :: news, q ∈ fz)) (by exact rfl) R₂ (small_one (by exact Int.not_lt.mp (fun u9 => lin [] [] (.L 1 (.a (.i 0) (.i 1)) (.i (-(2 ^ 62))) .n) (by kernel_rfl) u9)) (by exact Int.not_le.mp (fun u9 => lin [] [] (.L 1 (.i (2 ^ 62)) (.i 0) .n) (by kernel_rfl) u9)) (by exact Int.not_lt.mp (fun u9 => lin [_] [] (.L 1 (.a (.s (.z (.v 0)) (.i 1)) (.i 1)) (.i (-(2 ^ 62))) (.l 1 (.c 7) (.v 0) .n)) (by kernel_rfl) u9 hr1)) (by exact Int.not_le.mp (fun u9 => lin [_] [] (.L 1 (.i (2 ^ 62)) (.s (.z (.v 0)) (.i 1)) (.l 1 (.v 0) (.c 10) .n)) (by kernel_rfl) u9 hr2))) (by rw [rangeSize_nat, hb1]) F₂ N₂ (xi5 [] [] 0 0 ((LB, LBo) :: (L' + 1, oc) :: news) ⟨rfl, rfl, rfl, rfl, rfl, rfl, .nil, .nil, hbase, fun _ h => h⟩) ?_ ?_
  · intro i t m₁ news₁ h tk I io hi h8q
    (try rw [hJ9] at h8q)
    refine xx5 h8q fun sv pv k1 k2 fz h9q => ?_
    refine aa10 h9q fun e1 e2 e3 e4 e5 qe5 hsd hpl hfz hsub => ?_
    clear h9q
    subst qe5
    clear h8q
    intro hI hlt F₃ N₃
    refine nameQ fun Qt hQt => ?_
    change Fr g' L' h _ at F₃
    change News g' L' h _ at N₃
    first | refine expo5 F₃ e1 e2 e3 e4 e5 ?_ | refine expi5 F₃ e1 e2 e3 e4 e5 ?_
    clear F₃
    intro M9 F₃
    have hSI : SD ≠ I := fun e => hI (SD, _) (.tail _ (.head _)) e
    have hPI : PL ≠ I := fun e => hI (PL, _) (.head _) e
    have hLBm : (LB, LBo) ∈ fz := hsub _ (.head _)
    have hNm : (NU, oLst nvals nN) ∈ fz := hsub _ (.tail _ (.tail _ hN))
    have hsl : sv.length ≤ 9 := by rw [paired_len hsd]; simp; exact Nat.not_lt.mp (fun u9 => lin [_, _, _] [] (.l 1 (.a (.c 9) (.c 1)) (.v 2) (.l 1 (.v 0) (.c 10) (.l 1 (.a (.v 2) (.c 1)) (.v 1) (.e 1 (.a (.v 1) (.c 1)) (.v 0) .n)))) (by kernel_rfl) u9 hr2 hi (Nat.sub_add_cancel (Nat.not_lt.mp (fun u9 => lin [_, _] [] (.l 1 (.a (.v 0) (.c 1)) (.c 1) (.e 1 (.a (.v 1) (.c 1)) (.v 0) .n)) (by kernel_rfl) u9 (Nat.sub_add_cancel (Nat.not_lt.mp (fun u9 => lin [_, _, _] [] (.l 1 (.a (.v 0) (.c 1)) (.c 1) (.l 1 (.a (.v 2) (.c 1)) (.v 1) (.l 1 (.v 1) (.v 0) .n))) (by kernel_rfl) u9 hi (Nat.sub_le _ _))))))))
    have hpl' : pv.length ≤ 9 := by rw [paired_len hpl]; simp; exact Nat.not_lt.mp (fun u9 => lin [_, _, _] [] (.l 1 (.a (.c 9) (.c 1)) (.v 2) (.l 1 (.v 0) (.c 10) (.l 1 (.a (.v 2) (.c 1)) (.v 1) (.e 1 (.a (.v 1) (.c 1)) (.v 0) .n)))) (by kernel_rfl) u9 hr2 hi (Nat.sub_add_cancel (Nat.not_lt.mp (fun u9 => lin [_, _] [] (.l 1 (.a (.v 0) (.c 1)) (.c 1) (.e 1 (.a (.v 1) (.c 1)) (.v 0) .n)) (by kernel_rfl) u9 (Nat.sub_add_cancel (Nat.not_lt.mp (fun u9 => lin [_, _, _] [] (.l 1 (.a (.v 0) (.c 1)) (.c 1) (.l 1 (.a (.v 2) (.c 1)) (.v 1) (.l 1 (.v 1) (.v 0) .n))) (by kernel_rfl) u9 hi (Nat.sub_le _ _))))))))
    have hf1 : ∀ q ∈ fz, q.1 ≠ SD := fun q hq => (hfz q hq).1
    have hf2 : ∀ q ∈ fz, q.1 ≠ PL := fun q hq => (hfz q hq).2.1
    have hf3 : ∀ q ∈ fz, q.1 ≠ DL := fun q hq => (hfz q hq).2.2
    subst hLBo
    repeat' ((fail_if_success (with_reducible show wpAny _ _ (exec (PySem.Stmt.For _ _ _ _ _) _) _ _ _)); (fail_if_success (with_reducible show wpAny _ _ (exec (PySem.Stmt.While _ _ _ _) _) _ _ _)); (fail_if_success (with_reducible show wpAny _ _ (pyIter _) _ _ _)); (first | (k_unfold; (try dsimp only)) | (k_end; kc_close) | walk1 | (dsimp only; walk1) | (leave1; walk_say "STEP leave1"; (try dsimp only))))
    rename_i X1 q1 lX1 q2 X2 q4 lX2 q5 F₄ N₄
    have hidx : ((0 + (i : Int)).fmod (nvals.length : Int)).toNat = i % ns.length := by
      rw [Int.zero_add, hnl, Int.fmod_eq_emod_of_nonneg _ (by exact Int.not_lt.mp (fun u9 => lin [_] [] (.L 1 (.a (.z (.v 0)) (.i 1)) (.i 0) (.l 1 (.c 4) (.v 0) .n)) (by kernel_rfl) u9 hl1))]
      lia
    simp only [hidx] at N₄
    refine hQt _ _ ?_
    refine' TurnOk.intro (news' := (PL, oLst (pv ++ [.ref X2]) (k2 + 1)) :: (SD, oLst (sv ++ [.ref X1]) (k1 + 1)) :: (DL, oLst (rg.map (kindRef T0 T1 T2)) cD) :: (X2, oLst [.int (0 + (i : Int)) t] 0) :: (X1, oLst [.bytes (labB (labAt ns i)).toArray ?tk9] 0) :: fz) F₄ (news_sub N₄ ?e1) ?e2 ?e3
    case e1 => (simp only [List.cons_append, List.nil_append]; walk_at "MINE subl")
    case e2 =>
      intro q hq
      rcases List.mem_cons.mp hq with rfl | hq
      · exact hPI
      rcases List.mem_cons.mp hq with rfl | hq
      · exact hSI
      rcases List.mem_cons.mp hq with rfl | hq
      · exact hI (DL, _) (.tail _ (.tail _ (.head _)))
      rcases List.mem_cons.mp hq with rfl | hq
      · exact neN (Nat.ne_of_gt lX2.2.2.1)
      rcases List.mem_cons.mp hq with rfl | hq
      · exact neN (Nat.ne_of_gt lX1.1)
      · exact hI q (.tail _ (.tail _ (.tail _ hq)))
    case e3 =>
      have hup : ∀ o1 o2 : Obj, ∀ q ∈ fz, q ∈ (X2, o2) :: (X1, o1) :: fz := fun _ _ q hq => .tail _ (.tail _ hq)
      refine (xi5 _ _ _ _ _ ⟨rfl, rfl, rfl, rfl, rfl, rfl, ?_, ?_, ?_, fun q hq => hup _ _ q (hsub q hq)⟩)
      · rw [List.range_succ, List.map_append]
        exact paired_app (paired_mono (fun _ _ => SideOk.mono (hup _ _)) hsd) (.cons ⟨X1, _, _, rfl, .tail _ (.head _), .cons ⟨_, rfl⟩ .nil⟩ .nil)
      · rw [List.range_succ, List.map_append]
        refine paired_app (paired_mono (fun _ _ => PlaceOk.mono (hup _ _)) hpl) (.cons ⟨X2, _, _, rfl, .head _, ?_⟩ .nil)
        rw [Int.zero_add]
        exact .cons _ _ .nil
      · intro q hq
        rcases List.mem_cons.mp hq with rfl | hq
        · exact ⟨neN (Nat.ne_of_gt lX2.1), neN (Nat.ne_of_gt lX2.2.2.2.1), neN (Nat.ne_of_gt lX2.2.2.2.2.1)⟩
        rcases List.mem_cons.mp hq with rfl | hq
        · exact ⟨neN (Nat.ne_of_gt lX1.2.2.1), neN (Nat.ne_of_gt lX1.2.1), neN (Nat.ne_of_gt lX1.2.2.2.1)⟩
        · exact hfz q hq
  · intro m₁ news₁ h tk h8q
    (try rw [hJ9] at h8q)
    refine xx5 h8q fun sv pv k1 k2 fz h9q => ?_
    refine aa10 h9q fun e1 e2 e3 e4 e5 qe5 hsd hpl hfz hsub => ?_
    clear h9q
    subst qe5
    clear h8q
    intro F₃ N₃
    change Fr g' L' h _ at F₃
    change News g' L' h _ at N₃
    first | refine expo4 F₃ e1 e2 e3 e5 ?_ | refine expi4 F₃ e1 e2 e3 e5 ?_
    clear F₃
    intro M9 F₃
    (try clear F₁ N₁)
    (try clear F₂ N₂)
    (try clear R₂)
    (try clear e4)
    have hLBm : (LB, LBo) ∈ fz := hsub _ (.head _)
    have hNm : (NU, oLst nvals nN) ∈ fz := hsub _ (.tail _ (.tail _ hN))
    have hsl : sv.length = rg.length - 1 := by rw [paired_len hsd]; simp
    have hpl' : pv.length = rg.length - 1 := by rw [paired_len hpl]; simp
    have hf1 : ∀ q ∈ fz, q.1 ≠ SD := fun q hq => (hfz q hq).1
    have hf2 : ∀ q ∈ fz, q.1 ≠ PL := fun q hq => (hfz q hq).2.1
    have hf3 : ∀ q ∈ fz, q.1 ≠ DL := fun q hq => (hfz q hq).2.2
    try k_fold
    repeat' ((fail_if_success (with_reducible show wpAny _ _ (exec (PySem.Stmt.For _ _ _ _ _) _) _ _ _)); (fail_if_success (with_reducible show wpAny _ _ (exec (PySem.Stmt.While _ _ _ _) _) _ _ _)); (fail_if_success (with_reducible show wpAny _ _ (pyIter _) _ _ _)); (first | (k_unfold; (try dsimp only)) | (k_end; kc_close) | walk1 | (dsimp only; walk1) | (leave1; walk_say "STEP leave1"; (try dsimp only))))
    rename_i Z0 q1 lZ0 q2 q3 DD q4 iD nD sD eD e2D e3D lDD q5 t5 m5 q6 t6 m6 F₄ N₄
    have d2 : oc.data = .cell (some (.int gr tg)) := d1
    clear d1
    have hcell : (L' + 1, oc) ∈ fz := hsub _ (.tail _ (.head _))
    have HL : Lmp T0 T1 T2 r g b fz := H.mono fun q hq => hsub _ (.tail _ (.tail _ hq))
    obtain ⟨dv0, hdv0, N₅⟩ : ∃ dv0, IntsAre dv0 (List.replicate (rg.length - 1) 0) ∧ News g' L' q6 ((DD, oLst dv0 0) :: (SD, oLst sv k1) :: (DL, oLst (rg.map (kindRef T0 T1 T2)) cD) :: (PL, oLst pv k2) :: fz) := by
      refine ⟨_, ?_, news_sub N₄ (by walk_at "MINE subl")⟩
      have e9 : (List.replicate ((sv.length : Int)).toNat [(0 : Int)]).flatten = List.replicate (rg.length - 1) 0 := by
        rw [List.flatten_replicate_singleton, Int.toNat_natCast, hsl]
      rw [← e9]
      exact iD
    clear N₄ iD sD eD e2D e3D
    rename News g' L' q6 _ => N₄
    obtain ⟨J9, hJ9⟩ : ∃ J : Nat → (Str → Option Value) → Led → Prop, J = fun n m nw => ∃ (bs : List Blk) (dv sv pv : List Value) (PL : Addr) (k1 k2 k3 k4 : Nat) (fz : Led) (cuts : Int) (tc : Tok), n = bs.length ∧ LineJ rg bs ∧ m (Str.ofString "lamps") = some (.ref DL) ∧ m (Str.ofString "sides") = some (.ref SD) ∧ m (Str.ofString "places") = some (.ref PL) ∧ m (Str.ofString "deep") = some (.ref DD) ∧ m (Str.ofString "numbers") = some (.ref NU) ∧ m (Str.ofString "cuts") = some (.int cuts tc) ∧
      nw = (DD, oLst dv k3) :: (SD, oLst sv k1) :: (DL, oLst ((lsOf (rg.getD 0 0) bs).map (kindRef T0 T1 T2)) k4) :: fz ∧ Paired (SideOk fz) sv bs ∧ (PL, oLst pv k2) ∈ fz ∧ Paired (PlaceOk fz) pv (spans 0 bs) ∧ IntsAre dv (deepOf bs) ∧
      (∀ q ∈ fz, q.1 ≠ SD ∧ q.1 ≠ DD ∧ q.1 ≠ DL) ∧ (∀ q ∈ (L' + 1, oc) :: news, q ∈ fz) ∧ 0 ≤ cuts ∧ cuts + bs.length = rg.length - 1 := ⟨_, rfl⟩
    refine While_inv (h₀ := g') (L := L') (n₀ := rg.length - 1) J9 F₄ N₄ ?_ ?_
    · have hne9 : rg ≠ [] := by intro e; rw [e] at hr1; simp at hr1
      refine j3 hJ9 (xi12 (bs0 ns rg) dv0 sv pv PL k1 k2 0 cD ((PL, oLst pv k2) :: fz) 0 _ ⟨by simp [bs0], LineJ.start ns hls0, rfl, rfl, rfl, rfl, rfl, rfl, by rw [ls0 ns rg hne9], paired_mono (fun _ _ => SideOk.mono fun q hq => .tail _ hq) hsd, .head _, ?_, by rw [deep0]; exact hdv0, ?_, fun q hq => .tail _ (hsub q (.tail _ hq)), by exact Int.not_lt.mp (fun u9 => lin [] [] (.L 1 (.a (.i 0) (.i 1)) (.i 0) .n) (by kernel_rfl) u9), ?_⟩)
      · rw [spans0]; exact paired_mono (fun _ _ => PlaceOk.mono fun q hq => .tail _ hq) hpl
      · intro q hq
        rcases List.mem_cons.mp hq with rfl | hq
        · exact ⟨hSP.symm, neN (Nat.ne_of_lt lDD.2.1), hDP.symm⟩
        · exact ⟨hf1 q hq, neN (Nat.ne_of_lt (ktn_ltOf lDD.2.2.2.2 q hq)), hf3 q hq⟩
      · have : (bs0 ns rg).length = rg.length - 1 := by simp [bs0]
        exact linz [_, _, _, _] [] (.a (.i 0) (.z (.v 3))) (.s (.z (.v 0)) (.i 1)) (.e 1 (.v 1) (.v 2) (.e (-1) (.v 3) (.v 2) (.E (-1) (.z (.v 1)) (.s (.s (.z (.v 0)) (.i 1)) (.i 0)) .n))) (by kernel_rfl) hb1 this (Int.toNat_of_nonneg (Int.not_lt.mp (fun u9 => lin [_] [] (.L 1 (.a (.s (.s (.z (.v 0)) (.i 1)) (.i 0)) (.i 1)) (.i 0) (.l 1 (.c 7) (.v 0) .n)) (by kernel_rfl) u9 hr1)))
    · intro n m₂ news₂ h₂ tk₂ F₅ N₅ h8q
      (try rw [hJ9] at h8q)
      refine xx12 h8q fun bs dv sv pv PL k1 k2 k3 k4 fz cuts tc h9q => ?_
      refine aa17 h9q fun qe0 hJ e1 e2 e3 e4 e5 e6 qe8 hsd hPm hpl hdv hfz hsub hc0 hc1 => ?_
      clear h9q
      subst qe0
      subst qe8
      clear h8q
      have hinv := hJ.inv
      have hdl := hJ.dep
      change Fr g' L' h₂ _ at F₅
      change News g' L' h₂ _ at N₅
      first | refine expo6 F₅ e1 e2 e3 e4 e5 e6 ?_ | refine expi6 F₅ e1 e2 e3 e4 e5 e6 ?_
      clear F₅
      intro M9 F₅
      have hNm : (NU, oLst nvals nN) ∈ fz := hsub _ (.tail _ hN)
      have hcell : (L' + 1, oc) ∈ fz := hsub _ (.head _)
      have HL : Lmp T0 T1 T2 r g b fz := H.mono fun q hq => hsub _ (.tail _ hq)
      have hf1 : ∀ q ∈ fz, q.1 ≠ SD := fun q hq => (hfz q hq).1
      have hf2 : ∀ q ∈ fz, q.1 ≠ DD := fun q hq => (hfz q hq).2.1
      have hf3 : ∀ q ∈ fz, q.1 ≠ DL := fun q hq => (hfz q hq).2.2
      have hll : (lsOf (rg.getD 0 0) bs).length = bs.length + 1 := by simp [lsOf]
      have hbl : bs.length ≤ 9 := by exact Nat.not_lt.mp (fun u9 => lin [_, _] [_] (.l 1 (.a (.c 9) (.c 1)) (.v 1) (.l 1 (.v 0) (.c 10) (.L 1 (.i 0) (.v 0) (.E 1 (.a (.v 0) (.z (.v 1))) (.s (.z (.v 0)) (.i 1)) .n)))) (by kernel_rfl) u9 hr2 hc0 hc1)
      have hsl : sv.length = bs.length := paired_len hsd
      have hpl' : pv.length = bs.length := by rw [paired_len hpl, spans_len]
      have hdl' : dv.length = rg.length - 1 := by rw [hdv.length, hdl]
      have hlt3 := hinv.ls.tri
      generalize hls : lsOf (rg.getD 0 0) bs = ls at N₅ hll hlt3
      repeat' ((fail_if_success (with_reducible show wpAny _ _ (exec (PySem.Stmt.For _ _ _ _ _) _) _ _ _)); (fail_if_success (with_reducible show wpAny _ _ (exec (PySem.Stmt.While _ _ _ _) _) _ _ _)); (fail_if_success (with_reducible show wpAny _ _ (pyIter _) _ _ _)); (first | (k_unfold; (try dsimp only)) | (k_end; kc_close) | walk1 | (dsimp only; walk1) | (leave1; walk_say "STEP leave1"; (try dsimp only))))
      · rename Fr g' L' _ _ => F₆
        rename News g' L' _ _ => N₆
        rename_i hlen3 FR q1 lFR q2 t2 m2
        refine For_invVF F₆ (by exact rfl) (by exact rfl) ?_
        repeat' ((fail_if_success (with_reducible show wpAny _ _ (exec (PySem.Stmt.For _ _ _ _ _) _) _ _ _)); (fail_if_success (with_reducible show wpAny _ _ (exec (PySem.Stmt.While _ _ _ _) _) _ _ _)); (fail_if_success (with_reducible show wpAny _ _ (pyIter _) _ _ _)); (first | (k_unfold; (try dsimp only)) | (k_end; kc_close) | walk1 | (dsimp only; walk1) | (leave1; walk_say "STEP leave1"; (try dsimp only))))
        rename IsRange _ _ _ _ _ _ _ _ => R₇
        rename Fr g' L' _ _ => F₇
        rename News g' L' _ _ => N₇
        have hFD : FR ≠ DD := neN (Nat.ne_of_gt lFR.1)
        have hFS : FR ≠ SD := neN (Nat.ne_of_gt lFR.2.1)
        have hFL : FR ≠ DL := neN (Nat.ne_of_gt lFR.2.2.1)
        have hFf : ∀ q ∈ fz, q.1 ≠ FR := ne_allLt lFR.2.2.2
        refine iter_rangeJ (r := _) (n := ls.length - 2) (fun i m nw => ∃ fv kf, m (Str.ofString "free") = some (.ref FR) ∧ m (Str.ofString "lamps") = some (.ref DL) ∧ m (Str.ofString "sides") = some (.ref SD) ∧ m (Str.ofString "places") = some (.ref PL) ∧ m (Str.ofString "deep") = some (.ref DD) ∧ m (Str.ofString "numbers") = some (.ref NU) ∧ m (Str.ofString "cuts") = some (.int cuts tc) ∧
          nw = (FR, oLst fv kf) :: (DD, oLst dv k3) :: (SD, oLst sv k1) :: (DL, oLst (ls.map (kindRef T0 T1 T2)) k4) :: fz ∧ IntsAre fv (freeTo ls i)) (by exact rfl) R₇ (small_one (by exact Int.not_lt.mp (fun u9 => lin [] [] (.L 1 (.a (.i 1) (.i 1)) (.i (-(2 ^ 62))) .n) (by kernel_rfl) u9)) (by exact Int.not_le.mp (fun u9 => lin [] [] (.L 1 (.i (2 ^ 62)) (.i 1) .n) (by kernel_rfl) u9)) (by exact Int.not_lt.mp (fun u9 => lin [_] [] (.L 1 (.a (.s (.z (.v 0)) (.i 1)) (.i 1)) (.i (-(2 ^ 62))) (.L 1 (.a (.i 2) (.i 1)) (.z (.v 0)) .n)) (by kernel_rfl) u9 hlen3)) (by exact Int.not_le.mp (fun u9 => lin [_, _, _] [_] (.L 1 (.i (2 ^ 62)) (.s (.z (.v 2)) (.i 1)) (.l 1 (.v 0) (.c 10) (.L 1 (.i 0) (.v 0) (.E 1 (.a (.v 0) (.z (.v 1))) (.s (.z (.v 0)) (.i 1)) (.e 1 (.v 2) (.a (.v 1) (.c 1)) .n))))) (by kernel_rfl) u9 hr2 hc0 hc1 hll))) (by rw [rangeSize_nat]; exact linz [_, _, _] [] (.z (.v 1)) (.z (.v 2)) (.E (-1) (.z (.v 1)) (.s (.s (.z (.v 0)) (.i 1)) (.i 1)) (.e 1 (.a (.v 2) (.c 2)) (.v 0) .n)) (by kernel_rfl) (Int.toNat_of_nonneg (Int.not_lt.mp (fun u9 => lin [_] [] (.L 1 (.a (.s (.s (.z (.v 0)) (.i 1)) (.i 1)) (.i 1)) (.i 0) (.L 1 (.a (.i 2) (.i 1)) (.z (.v 0)) .n)) (by kernel_rfl) u9 hlen3))) (Nat.sub_add_cancel (Nat.not_lt.mp (fun u9 => lin [_] [] (.l 1 (.a (.v 0) (.c 1)) (.c 2) (.L 1 (.a (.i 2) (.i 1)) (.z (.v 0)) .n)) (by kernel_rfl) u9 hlen3)))) F₇ N₇ (xi2 [] 0 ⟨rfl, rfl, rfl, rfl, rfl, rfl, rfl, rfl, .nil⟩) ?_ ?_
        · intro i t m₁ news₁ h tk I io hi h8q
          (try rw [hJ9] at h8q)
          refine xx2 h8q fun fv kf h9q => ?_
          refine aa9 h9q fun f1 f2 f3 f4 f5 f6 f7 qe7 hfv => ?_
          clear h9q
          subst qe7
          clear h8q
          intro hI hlt F₈ N₈
          refine nameQ fun Qf hQf => ?_
          change Fr g' L' h _ at F₈
          change News g' L' h _ at N₈
          first | refine expo2 F₈ f1 f2 ?_ | refine expi2 F₈ f1 f2 ?_
          clear F₈
          intro M9 F₈
          have hFI : FR ≠ I := fun e => hI (FR, _) (.head _) e
          have hIF : I ≠ FR := hFI.symm
          have hfl : fv.length ≤ 10 := by
            rw [hfv.length]
            have := List.length_filter_le (isFree ls) ((List.range i).map (· + 1))
            simp only [freeTo, List.length_map, List.length_range] at this ⊢
            exact Nat.not_lt.mp (fun u9 => lin [_, _, _, _, _, _] [_] (.l 1 (.a (.c 10) (.c 1)) (.v 5) (.l 1 (.v 0) (.c 10) (.L 1 (.i 0) (.v 0) (.E 1 (.a (.v 0) (.z (.v 1))) (.s (.z (.v 0)) (.i 1)) (.e 1 (.v 2) (.a (.v 1) (.c 1)) (.l 1 (.a (.v 3) (.c 1)) (.v 4) (.l 1 (.v 5) (.v 3) (.e 1 (.a (.v 4) (.c 2)) (.v 2) .n)))))))) (by kernel_rfl) u9 hr2 hc0 hc1 hll hi this (Nat.sub_add_cancel (Nat.not_lt.mp (fun u9 => lin [_] [] (.l 1 (.a (.v 0) (.c 1)) (.c 2) (.L 1 (.a (.i 2) (.i 1)) (.z (.v 0)) .n)) (by kernel_rfl) u9 hlen3))))
          clear F₇ N₇ hfz hsub e1 e2 e3 e4 e5 e6
          have ex1 : (1 + (i : Int) - 1).toNat = i := by exact linn [_, _] [] (.v 0) (.v 1) (.E (-1) (.z (.v 0)) (.s (.a (.i 1) (.z (.v 1))) (.i 1)) .n) (by kernel_rfl) (Int.toNat_of_nonneg (Int.not_lt.mp (fun u9 => lin [_] [] (.L 1 (.a (.s (.a (.i 1) (.z (.v 0))) (.i 1)) (.i 1)) (.i 0) .n) (by kernel_rfl) u9)))
          have ex2 : (1 + (i : Int)).toNat = i + 1 := by exact linn [_, _] [] (.v 0) (.a (.v 1) (.c 1)) (.E (-1) (.z (.v 0)) (.a (.i 1) (.z (.v 1))) .n) (by kernel_rfl) (Int.toNat_of_nonneg (Int.not_lt.mp (fun u9 => lin [_] [] (.L 1 (.a (.a (.i 1) (.z (.v 0))) (.i 1)) (.i 0) .n) (by kernel_rfl) u9)))
          have ex3 : (1 + (i : Int) + 1).toNat = i + 1 + 1 := by exact linn [_, _] [] (.v 0) (.a (.a (.v 1) (.c 1)) (.c 1)) (.E (-1) (.z (.v 0)) (.a (.a (.i 1) (.z (.v 1))) (.i 1)) .n) (by kernel_rfl) (Int.toNat_of_nonneg (Int.not_lt.mp (fun u9 => lin [_] [] (.L 1 (.a (.a (.a (.i 1) (.z (.v 0))) (.i 1)) (.i 1)) (.i 0) .n) (by kernel_rfl) u9)))
          have ex4 : ((i + 1 : Nat) : Int) = 1 + (i : Int) := by exact linz [_] [] (.z (.a (.v 0) (.c 1))) (.a (.i 1) (.z (.v 0))) .n (by kernel_rfl)
          repeat' ((fail_if_success (with_reducible show wpAny _ _ (exec (PySem.Stmt.For _ _ _ _ _) _) _ _ _)); (fail_if_success (with_reducible show wpAny _ _ (exec (PySem.Stmt.While _ _ _ _) _) _ _ _)); (fail_if_success (with_reducible show wpAny _ _ (pyIter _) _ _ _)); (first | (k_unfold; (try dsimp only)) | (k_end; kc_close) | walk1 | (dsimp only; walk1) | (leave1; walk_say "STEP leave1"; (try dsimp only))))
          · rename ls.getD _ 0 = ls.getD _ 0 => hq
            rw [ex1, ex3] at hq
            have hfree : isFree ls (i + 1) = false := by unfold isFree; simp only [Nat.add_sub_cancel, hq]; simp
            refine hQf _ _ ?_
            refine' TurnOk.intro (news' := (FR, oLst fv kf) :: (DD, oLst dv k3) :: (SD, oLst sv k1) :: (DL, oLst (ls.map (kindRef T0 T1 T2)) k4) :: fz) ?F ?N hI ?e
            case F => assumption
            case N => assumption
            case e => exact (xi2 fv kf ⟨rfl, rfl, f3, f4, f5, f6, f7, rfl, by rw [freeTo_succ, hfree]; simpa using hfv⟩)
          · rename ¬ ls.getD _ 0 = ls.getD _ 0 => hq
            rw [ex1, ex3] at hq
            rename (ls.length : Int) = 3 => hq3
            have hfree : isFree ls (i + 1) = true := by unfold isFree; rw [Nat.add_sub_cancel, decide_eq_false hq, show ls.length = 3 by exact linn [_] [] (.v 0) (.c 3) (.E (-1) (.z (.v 0)) (.i 3) .n) (by kernel_rfl) hq3]; rfl
            refine hQf _ _ ?_
            refine' TurnOk.intro (news' := (FR, oLst (fv ++ [.int (1 + (i : Int)) t]) (kf + 1)) :: (DD, oLst dv k3) :: (SD, oLst sv k1) :: (DL, oLst (ls.map (kindRef T0 T1 T2)) k4) :: fz) ?F ?N ?h ?e
            case F => assumption
            case N => exact news_sub (by assumption) (by simp only [List.cons_append, List.nil_append]; walk_at "MINE subl")
            case h => exact fun q hq => (List.mem_cons.mp hq).elim (fun e => e ▸ hFI) fun hq => hI q (.tail _ hq)
            case e => exact (xi2 _ _ ⟨rfl, rfl, f3, f4, f5, f6, f7, rfl, by rw [freeTo_succ, hfree, if_pos rfl, ex4]; exact ints_snoc hfv _ _⟩)
          · rename ¬ ls.getD _ 0 = ls.getD _ 0 => hq
            rw [ex1, ex3] at hq
            rename 1 < ((List.count _ ls : Nat) : Int) => hq3
            rw [ex2] at hq3
            have hfree : isFree ls (i + 1) = true := by unfold isFree; rw [Nat.add_sub_cancel, decide_eq_false hq, decide_eq_true (show 1 < ls.count (ls.getD (i + 1) 0) by exact Nat.not_le.mp (fun u9 => lin [_] [] (.l 1 (.v 0) (.c 1) (.L 1 (.a (.i 1) (.i 1)) (.z (.v 0)) .n)) (by kernel_rfl) u9 hq3)), Bool.or_true]; rfl
            refine hQf _ _ ?_
            refine' TurnOk.intro (news' := (FR, oLst (fv ++ [.int (1 + (i : Int)) t]) (kf + 1)) :: (DD, oLst dv k3) :: (SD, oLst sv k1) :: (DL, oLst (ls.map (kindRef T0 T1 T2)) k4) :: fz) ?F ?N ?h ?e
            case F => assumption
            case N => exact news_sub (by assumption) (by simp only [List.cons_append, List.nil_append]; walk_at "MINE subl")
            case h => exact fun q hq => (List.mem_cons.mp hq).elim (fun e => e ▸ hFI) fun hq => hI q (.tail _ hq)
            case e => exact (xi2 _ _ ⟨rfl, rfl, f3, f4, f5, f6, f7, rfl, by rw [freeTo_succ, hfree, if_pos rfl, ex4]; exact ints_snoc hfv _ _⟩)
          · rename ¬ ls.getD _ 0 = ls.getD _ 0 => hq
            rename (ls.length : Int) ≠ 3 => hq2
            rename ¬ 1 < ((List.count _ ls : Nat) : Int) => hq3
            rw [ex2] at hq3
            have hfree : isFree ls (i + 1) = false := by unfold isFree; rw [show (ls.length == 3) = false by (rw [beq_eq_false_iff_ne]; exact Or.elim (Int.lt_or_gt_of_ne hq2) (fun q0 => fun u9 => lin [_] [] (.e (-1) (.v 0) (.c 3) (.L 1 (.a (.z (.v 0)) (.i 1)) (.i 3) .n)) (by kernel_rfl) u9 q0) (fun q0 => fun u9 => lin [_] [] (.e 1 (.v 0) (.c 3) (.L 1 (.a (.i 3) (.i 1)) (.z (.v 0)) .n)) (by kernel_rfl) u9 q0)), decide_eq_false (show ¬ 1 < ls.count (ls.getD (i + 1) 0) by exact fun u9 => lin [_] [] (.l 1 (.a (.c 1) (.c 1)) (.v 0) (.L 1 (.z (.v 0)) (.i 1) .n)) (by kernel_rfl) u9 (Int.not_lt.mp hq3)), Bool.or_false, Bool.and_false]
            refine hQf _ _ ?_
            refine' TurnOk.intro (news' := (FR, oLst fv kf) :: (DD, oLst dv k3) :: (SD, oLst sv k1) :: (DL, oLst (ls.map (kindRef T0 T1 T2)) k4) :: fz) ?F ?N hI ?e
            case F => assumption
            case N => assumption
            case e => exact (xi2 fv kf ⟨rfl, rfl, f3, f4, f5, f6, f7, rfl, by rw [freeTo_succ, hfree]; simpa using hfv⟩)
        · intro m₁ news₁ h tk h8q
          (try rw [hJ9] at h8q)
          refine xx2 h8q fun fv kf h9q => ?_
          refine aa9 h9q fun f1 f2 f3 f4 f5 f6 f7 qe7 hfv => ?_
          clear h9q
          subst qe7
          clear h8q
          intro F₈ N₈
          change Fr g' L' h _ at F₈
          change News g' L' h _ at N₈
          first | refine expo7 F₈ f1 f2 f3 f4 f5 f6 f7 ?_ | refine expi7 F₈ f1 f2 f3 f4 f5 f6 f7 ?_
          clear F₈
          intro M9 F₈
          clear f1 f2 f3 f4 f5 f6 f7 e1 e2 e3 e4 e5 e6
          (try clear F₇ N₇)
          (try clear R₇)
          have hfl : fv.length ≤ 10 := by
            rw [hfv.length]
            have := List.length_filter_le (isFree ls) ((List.range (ls.length - 2)).map (· + 1))
            simp only [freeTo, List.length_map, List.length_range] at this ⊢
            exact Nat.not_lt.mp (fun u9 => lin [_, _, _, _, _] [_] (.l 1 (.a (.c 10) (.c 1)) (.v 3) (.l 1 (.v 0) (.c 10) (.L 1 (.i 0) (.v 0) (.E 1 (.a (.v 0) (.z (.v 1))) (.s (.z (.v 0)) (.i 1)) (.e 1 (.v 2) (.a (.v 1) (.c 1)) (.l 1 (.v 3) (.v 4) (.e 1 (.a (.v 4) (.c 2)) (.v 2) .n))))))) (by kernel_rfl) u9 hr2 hc0 hc1 hll this (Nat.sub_add_cancel (Nat.not_lt.mp (fun u9 => lin [_] [] (.l 1 (.a (.v 0) (.c 1)) (.c 2) (.L 1 (.a (.i 2) (.i 1)) (.z (.v 0)) .n)) (by kernel_rfl) u9 hlen3))))
          have hfn : fv.length = (freeTo ls (ls.length - 2)).length := hfv.length
          have hfp : 0 < (freeTo ls (ls.length - 2)).length := List.length_pos_iff.mpr (free_ne (hls ▸ hinv.ls) (by exact Nat.not_lt.mp (fun u9 => lin [_] [] (.l 1 (.a (.v 0) (.c 1)) (.c 3) (.L 1 (.a (.i 2) (.i 1)) (.z (.v 0)) .n)) (by kernel_rfl) u9 hlen3)))
          generalize hfs : freeTo ls (ls.length - 2) = fs at hfv hfn hfp
          dsimp only
          try k_fold
          repeat' ((fail_if_success (with_reducible show wpAny _ _ (exec (PySem.Stmt.For _ _ _ _ _) _) _ _ _)); (fail_if_success (with_reducible show wpAny _ _ (exec (PySem.Stmt.While _ _ _ _) _) _ _ _)); (fail_if_success (with_reducible show wpAny _ _ (pyIter _) _ _ _)); (fail_if_success (with_reducible show wpAny _ _ (eval (PySem.Expr.ListComp _ _ _ _) _) _ _ _)); (first | (k_unfold; (try dsimp only)) | (k_end; kc_close) | walk1 | (dsimp only; walk1) | (leave1; walk_say "STEP leave1"; (try dsimp only))))
          · exact absurd (of_decide_eq_true (by assumption : decide (fs = []) = true)) (List.ne_nil_of_length_pos hfp)
          rename Fr g' L' _ _ => F₉
          dsimp (zetaDelta := true) only at F₉
          generalize hK9 : fs.getD (((ns.getD (cuts.fmod (nvals.length : Int)).toNat 0).fdiv 36).fmod (fv.length : Int)).toNat 0 = K9 at *
          have hkm : K9 ∈ fs := by
            rw [← hK9]
            have h1 : 0 ≤ (((ns.getD (cuts.fmod (nvals.length : Int)).toNat 0).fdiv 36).fmod (fv.length : Int)) := Int.fmod_nonneg_of_pos _ (by exact Int.not_le.mp (fun u9 => lin [_, _] [] (.L 1 (.z (.v 0)) (.i 0) (.e (-1) (.v 0) (.v 1) (.l 1 (.a (.c 0) (.c 1)) (.v 1) .n))) (by kernel_rfl) u9 hfn hfp))
            have h2 : (((ns.getD (cuts.fmod (nvals.length : Int)).toNat 0).fdiv 36).fmod (fv.length : Int)) < (fv.length : Int) := Int.fmod_lt_of_pos _ (by exact Int.not_le.mp (fun u9 => lin [_, _] [] (.L 1 (.z (.v 0)) (.i 0) (.e (-1) (.v 0) (.v 1) (.l 1 (.a (.c 0) (.c 1)) (.v 1) .n))) (by kernel_rfl) u9 hfn hfp))
            rw [List.getD_eq_getElem?_getD, List.getElem?_eq_getElem (by exact Or.elim (Int.le_total 0 (((ns.getD (cuts.fmod ↑nvals.length).toNat 0).fdiv 36).fmod ↑fv.length)) (fun q0 => Nat.not_le.mp (fun u9 => lin [_, _, _] [_] (.l 1 (.v 1) (.v 2) (.e 1 (.v 0) (.v 1) (.L 1 (.a (.v 0) (.i 1)) (.z (.v 0)) (.E 1 (.z (.v 2)) (.v 0) .n)))) (by kernel_rfl) u9 hfn h2 (Int.toNat_of_nonneg (Int.not_lt.mp (fun u9 => lin [] [_] (.L 1 (.a (.v 0) (.i 1)) (.i 0) (.L 1 (.i 0) (.v 0) .n)) (by kernel_rfl) u9 q0))))) (fun q0 => Nat.not_le.mp (fun u9 => lin [_, _] [] (.l 1 (.v 0) (.v 1) (.l 1 (.a (.c 0) (.c 1)) (.v 0) (.e 1 (.v 1) (.c 0) .n))) (by kernel_rfl) u9 hfp (Int.toNat_of_nonpos (Int.not_lt.mp (fun u9 => lin [] [_] (.L 1 (.a (.i 0) (.i 1)) (.v 0) (.L 1 (.v 0) (.i 0) .n)) (by kernel_rfl) u9 q0))))))]
            exact List.getElem_mem _
          obtain ⟨kk, rfl, hk1, hk2, hkf⟩ := freeTo_mem (hfs ▸ hkm)
          clear hK9 hkm hfv hfn hfp hfs hfl
          rename Fr g' L' _ _ => F₉
          rename News g' L' _ _ => N₉
          replace N₉ := news_sub (r := (DD, oLst dv k3) :: (SD, oLst sv k1) :: (DL, oLst (List.map (kindRef T0 T1 T2) ls) k4) :: fz) N₉ (by walk_at "MINE subl")
          refine nameQ fun Q' hQ' => ?_
          refine' wpAny_ListComp_free (cl := [(Str.ofString "grey", L' + 1)]) (fun _ => true) (fun v y => ∃ x t u, v = Value.int x t ∧ y = Value.int (clampI 16 (gr - 2 * x)) u) ?c1 ?c2 ?c3 ?c4 ?c5 ?_ ?c6
          case c1 => rfl
          case c2 => decide
          case c3 => rfl
          case c4 => decide
          case c5 => rfl
          case c6 => intro x; rfl
          repeat' ((fail_if_success (with_reducible show wpAny _ _ (exec (PySem.Stmt.For _ _ _ _ _) _) _ _ _)); (fail_if_success (with_reducible show wpAny _ _ (exec (PySem.Stmt.While _ _ _ _) _) _ _ _)); (fail_if_success (with_reducible show wpAny _ _ (pyIter _) _ _ _)); (first | (k_unfold; (try dsimp only)) | (k_end; kc_close) | walk1 | (dsimp only; walk1) | (leave1; walk_say "STEP leave1"; (try dsimp only))))
          rename Fr g' L' _ _ => F₉
          rename News g' L' _ _ => N₉
          obtain ⟨x, y, z, n9, hm9⟩ := HL.mem (tri_at hlt3 (show kk < ls.length by exact Nat.not_le.mp (fun u9 => lin [_, _, _] [] (.l 1 (.v 0) (.v 1) (.l 1 (.v 1) (.v 2) (.e 1 (.a (.v 2) (.c 2)) (.v 0) .n))) (by kernel_rfl) u9 hk2 (Nat.sub_add_cancel (Nat.not_lt.mp (fun u9 => lin [_] [] (.l 1 (.a (.v 0) (.c 1)) (.c 2) (.L 1 (.a (.i 2) (.i 1)) (.z (.v 0)) .n)) (by kernel_rfl) u9 hlen3))))))
          have ekk : ((kk : Int)).toNat = kk := by exact linn [_, _] [] (.v 1) (.v 0) (.E (-1) (.z (.v 1)) (.z (.v 0)) .n) (by kernel_rfl) (Int.toNat_of_nonneg (Int.not_lt.mp (fun u9 => lin [_] [] (.L 1 (.a (.z (.v 0)) (.i 1)) (.i 0) (.l 1 (.c 1) (.v 0) .n)) (by kernel_rfl) u9 hk1)))
          rw [ekk]
          refine comp_tup (its := #[.int _ x, .int _ y, .int _ z]) (by exact rfl) (News.isTup N₉ (.tail _ (.tail _ (.tail _ hm9)))) (show 3 ≤ sizeLine by decide) F₉ N₉ ?_ ?_
          · intro C v₁ s₃ m₃ E' hv hn hm₃ hk₃ F₆ N₆
            have hv' : ∃ p t, v₁ = .int p t := by
              simp only [List.mem_cons, List.not_mem_nil, or_false] at hv
              rcases hv with rfl | rfl | rfl <;> exact ⟨_, _, rfl⟩
            obtain ⟨p, t, rfl⟩ := hv'
            clear hv F₉ N₉
            repeat' ((fail_if_success (with_reducible show Exists _)); (fail_if_success (with_reducible show wpAny _ _ (exec (PySem.Stmt.For _ _ _ _ _) _) _ _ _)); (fail_if_success (with_reducible show wpAny _ _ (exec (PySem.Stmt.While _ _ _ _) _) _ _ _)); (fail_if_success (with_reducible show wpAny _ _ (pyIter _) _ _ _)); (first | (k_unfold; (try dsimp only)) | (k_end; kc_close) | (k_here; (with_reducible refine' compLocal ?_ ?_ ?_ ?_ ?_ ?_); walk_at "MINE go") | (k_here; (with_reducible refine' compCell ?_ ?_ ?_ ?_ ?_ ?c ?_ ?_); (k_dflt (case c => rfl)); walk_at "MINE go") | walk1 | (dsimp only; walk1) | (leave1; walk_say "STEP leave1"; (try dsimp only))))
            · exact ⟨_, _, _, rfl, clamp_tok _ _⟩
            · rename_i O1 h2 tk2 t2 O2 F2 N2
              exact ⟨_, _, rfl, fun b o e => O2 b o (O1 b o e)⟩
          · intro D' h' tk' ys n' F₆ N₆ hD hP
            cases hP with | cons h1 hP =>
            cases hP with | cons h2 hP =>
            cases hP with | cons h3 hP =>
            cases hP
            obtain ⟨x1, t1, u1, e1, rfl⟩ := h1
            obtain ⟨x2, t2, u2, e2, rfl⟩ := h2
            obtain ⟨x3, t3, u3, e3, rfl⟩ := h3
            cases e1; cases e2; cases e3
            refine hQ' _ _ ?_
            dsimp only
            clear F₉ N₉ hQ'
            have hadj := hinv.ls
            rw [hls] at hadj
            have hln : (kk : Int) + 1 < ls.length := by exact Int.not_le.mp (fun u9 => lin [_, _, _] [] (.L 1 (.z (.v 0)) (.a (.z (.v 1)) (.i 1)) (.l 1 (.v 1) (.v 2) (.e 1 (.a (.v 2) (.c 2)) (.v 0) .n))) (by kernel_rfl) u9 hk2 (Nat.sub_add_cancel (Nat.not_lt.mp (fun u9 => lin [_] [] (.l 1 (.a (.v 0) (.c 1)) (.c 2) (.L 1 (.a (.i 2) (.i 1)) (.z (.v 0)) .n)) (by kernel_rfl) u9 hlen3))))
            have e1k : ((kk : Int) - 1).toNat = kk - 1 := by exact linn [_, _, _] [] (.v 1) (.v 2) (.E (-1) (.z (.v 1)) (.s (.z (.v 0)) (.i 1)) (.e 1 (.a (.v 2) (.c 1)) (.v 0) .n)) (by kernel_rfl) (Int.toNat_of_nonneg (Int.not_lt.mp (fun u9 => lin [_] [] (.L 1 (.a (.s (.z (.v 0)) (.i 1)) (.i 1)) (.i 0) (.l 1 (.c 1) (.v 0) .n)) (by kernel_rfl) u9 hk1))) (Nat.sub_add_cancel (Nat.not_lt.mp (fun u9 => lin [_] [] (.l 1 (.a (.v 0) (.c 1)) (.c 1) (.l 1 (.c 1) (.v 0) .n)) (by kernel_rfl) u9 hk1)))
            have e2k : ((kk : Int) + 1).toNat = kk + 1 := by exact linn [_, _] [] (.v 0) (.a (.v 1) (.c 1)) (.E (-1) (.z (.v 0)) (.a (.z (.v 1)) (.i 1)) .n) (by kernel_rfl) (Int.toNat_of_nonneg (Int.not_lt.mp (fun u9 => lin [_] [] (.L 1 (.a (.a (.z (.v 0)) (.i 1)) (.i 1)) (.i 0) .n) (by kernel_rfl) u9)))
            have ht3 : Third (ls.getD ((kk : Int) - 1).toNat 0) (ls.getD ((kk : Int) + 1).toNat 0) (ls.getD ((kk : Int)).toNat 0) := by
              rw [e1k, e2k, ekk]
              have a1 := hadj.adj (kk - 1) (by exact Nat.not_le.mp (fun u9 => lin [_, _, _] [] (.l 1 (.v 0) (.a (.v 2) (.c 1)) (.L 1 (.a (.a (.z (.v 1)) (.i 1)) (.i 1)) (.z (.v 0)) (.l 1 (.v 2) (.v 1) .n))) (by kernel_rfl) u9 hln (Nat.sub_le _ _)))
              rw [show kk - 1 + 1 = kk by exact linn [_, _, _] [] (.a (.v 2) (.c 1)) (.v 0) (.e 1 (.v 1) (.v 2) (.E (-1) (.z (.v 1)) (.s (.z (.v 0)) (.i 1)) .n)) (by kernel_rfl) e1k (Int.toNat_of_nonneg (Int.not_lt.mp (fun u9 => lin [_, _] [] (.L 1 (.a (.s (.z (.v 0)) (.i 1)) (.i 1)) (.i 0) (.e 1 (.a (.v 1) (.c 1)) (.v 0) .n)) (by kernel_rfl) u9 (Nat.sub_add_cancel (Nat.not_lt.mp (fun u9 => lin [_] [] (.l 1 (.a (.v 0) (.c 1)) (.c 1) (.l 1 (.c 1) (.v 0) .n)) (by kernel_rfl) u9 hk1))))))] at a1
              have hf := hkf
              unfold isFree at hf
              rw [Bool.and_eq_true, Bool.not_eq_true', decide_eq_false_iff_not] at hf
              exact ⟨tri_at hlt3 (by exact Nat.not_le.mp (fun u9 => lin [_, _, _] [] (.l 1 (.v 0) (.v 2) (.L 1 (.a (.a (.z (.v 1)) (.i 1)) (.i 1)) (.z (.v 0)) (.l 1 (.v 2) (.v 1) .n))) (by kernel_rfl) u9 hln (Nat.sub_le _ _))), tri_at hlt3 (by exact Nat.not_le.mp (fun u9 => lin [_, _] [] (.l 1 (.v 0) (.a (.v 1) (.c 1)) (.L 1 (.a (.a (.z (.v 1)) (.i 1)) (.i 1)) (.z (.v 0)) .n)) (by kernel_rfl) u9 hln)), tri_at hlt3 (by exact Nat.not_le.mp (fun u9 => lin [_, _] [] (.l 1 (.v 0) (.v 1) (.L 1 (.a (.a (.z (.v 1)) (.i 1)) (.i 1)) (.z (.v 0)) .n)) (by kernel_rfl) u9 hln)), hf.1, fun e => a1 e.symm, hadj.adj kk (by exact Nat.not_le.mp (fun u9 => lin [_, _] [] (.l 1 (.v 0) (.a (.v 1) (.c 1)) (.L 1 (.a (.a (.z (.v 1)) (.i 1)) (.i 1)) (.z (.v 0)) .n)) (by kernel_rfl) u9 hln))⟩
            rw [← ekk] at hm9 N₆
            repeat' ((fail_if_success (with_reducible show wpAny _ _ (exec (PySem.Stmt.For _ _ _ _ _) _) _ _ _)); (fail_if_success (with_reducible show wpAny _ _ (exec (PySem.Stmt.While _ _ _ _) _) _ _ _)); (fail_if_success (with_reducible show wpAny _ _ (pyIter _) _ _ _)); (fail_if_success (with_reducible show wpAny _ _ (exec (PySem.Stmt.Expr _ _) _) _ _ _)); (first | (k_unfold; (try dsimp only)) | (k_end; kc_close) | walk1 | (dsimp only; walk1) | (leave1; walk_say "STEP leave1"; (try dsimp only))))
            rename Fr g' L' _ _ => F₇
            rename News g' L' _ _ => N₇
            replace N₇ := news_sub (r := (DD, oLst dv k3) :: (SD, oLst sv k1) :: (DL, oLst (List.map (kindRef T0 T1 T2) ls) k4) :: fz) N₇ (by (try simp only [List.cons_append, List.nil_append]); walk_at "MINE subl")
            clear hm9 hD
            obtain ⟨ba, hba⟩ : ∃ ba, bs[kk - 1]? = some ba := ⟨_, List.getElem?_eq_getElem (by exact Nat.not_le.mp (fun u9 => lin [_, _, _, _] [] (.l 1 (.v 0) (.v 3) (.e 1 (.v 1) (.a (.v 0) (.c 1)) (.L 1 (.a (.a (.z (.v 2)) (.i 1)) (.i 1)) (.z (.v 1)) (.l 1 (.v 3) (.v 2) .n)))) (by kernel_rfl) u9 hll hln (Nat.sub_le _ _)))⟩
            obtain ⟨bb, hbb⟩ : ∃ bb, bs[kk]? = some bb := ⟨_, List.getElem?_eq_getElem (by exact Nat.not_le.mp (fun u9 => lin [_, _, _] [] (.l 1 (.v 0) (.v 2) (.e 1 (.v 1) (.a (.v 0) (.c 1)) (.L 1 (.a (.a (.z (.v 2)) (.i 1)) (.i 1)) (.z (.v 1)) .n))) (by kernel_rfl) u9 hll hln))⟩
            obtain ⟨v1, hv1, A1, w1, cc1, rfl, hA1, hP1⟩ := paired_at hsd hba
            obtain ⟨v2, hv2, A2, w2, cc2, rfl, hA2, hP2⟩ := paired_at hsd hbb
            have hs1 : sv[((kk : Int) - 1).toNat]? = some (.ref A1) := by rw [e1k]; exact hv1
            have hs2 : sv[((kk : Int)).toNat]? = some (.ref A2) := by rw [ekk]; exact hv2
            have hw1 : w1.length ≤ 100 := by
              have q1 := pcs_le bs ba (List.mem_of_getElem? hba)
              have q2 := hJ.pcs
              rw [paired_len hP1]; exact Nat.not_lt.mp (fun u9 => lin [_, _, _, _, _, _] [] (.l 1 (.a (.c 100) (.c 1)) (.v 4) (.l 3 (.v 0) (.c 10) (.e 2 (.v 3) (.a (.v 2) (.c 1)) (.L 2 (.a (.i 2) (.i 1)) (.z (.v 3)) (.l 1 (.v 4) (.v 5) (.e 1 (.a (.v 5) (.m 2 (.v 2))) (.m 3 (.v 1)) (.e 3 (.a (.v 1) (.c 1)) (.v 0) .n))))))) (by kernel_rfl) u9 hr2 hll hlen3 q1 q2 (Nat.sub_add_cancel (Nat.not_lt.mp (fun u9 => lin [_, _] [] (.l 1 (.a (.v 0) (.c 1)) (.c 1) (.e 1 (.a (.v 1) (.c 1)) (.v 0) .n)) (by kernel_rfl) u9 (Nat.sub_add_cancel (Nat.not_lt.mp (fun u9 => lin [_, _, _, _, _] [] (.l 3 (.a (.v 0) (.c 1)) (.c 1) (.e 2 (.v 3) (.a (.v 2) (.c 1)) (.L 2 (.a (.i 2) (.i 1)) (.z (.v 3)) (.e 1 (.a (.v 4) (.m 2 (.v 2))) (.m 3 (.v 1)) (.l 3 (.v 1) (.v 0) .n))))) (by kernel_rfl) u9 hll hlen3 q2 (Nat.sub_le _ _))))))))
            have hw2 : w2.length ≤ 100 := by
              have q1 := pcs_le bs bb (List.mem_of_getElem? hbb)
              have q2 := hJ.pcs
              rw [paired_len hP2]; exact Nat.not_lt.mp (fun u9 => lin [_, _, _, _, _, _] [] (.l 1 (.a (.c 100) (.c 1)) (.v 4) (.l 3 (.v 0) (.c 10) (.e 2 (.v 3) (.a (.v 2) (.c 1)) (.L 2 (.a (.i 2) (.i 1)) (.z (.v 3)) (.l 1 (.v 4) (.v 5) (.e 1 (.a (.v 5) (.m 2 (.v 2))) (.m 3 (.v 1)) (.e 3 (.a (.v 1) (.c 1)) (.v 0) .n))))))) (by kernel_rfl) u9 hr2 hll hlen3 q1 q2 (Nat.sub_add_cancel (Nat.not_lt.mp (fun u9 => lin [_, _] [] (.l 1 (.a (.v 0) (.c 1)) (.c 1) (.e 1 (.a (.v 1) (.c 1)) (.v 0) .n)) (by kernel_rfl) u9 (Nat.sub_add_cancel (Nat.not_lt.mp (fun u9 => lin [_, _, _, _, _] [] (.l 3 (.a (.v 0) (.c 1)) (.c 1) (.e 2 (.v 3) (.a (.v 2) (.c 1)) (.L 2 (.a (.i 2) (.i 1)) (.z (.v 3)) (.e 1 (.a (.v 4) (.m 2 (.v 2))) (.m 3 (.v 1)) (.l 3 (.v 1) (.v 0) .n))))) (by kernel_rfl) u9 hll hlen3 q2 (Nat.sub_le _ _))))))))
            have hDDSD : DD ≠ SD := neN (Nat.ne_of_gt lDD.2.2.1)
            have hDDDL : DD ≠ DL := neN (Nat.ne_of_gt lDD.2.2.2.1)
            repeat' ((fail_if_success (with_reducible show wpAny _ _ (exec (PySem.Stmt.For _ _ _ _ _) _) _ _ _)); (fail_if_success (with_reducible show wpAny _ _ (exec (PySem.Stmt.While _ _ _ _) _) _ _ _)); (fail_if_success (with_reducible show wpAny _ _ (pyIter _) _ _ _)); (fail_if_success (with_reducible show wpAny _ _ (exec (PySem.Stmt.Assign _ _ _) _) _ _ _)); (first | (k_unfold; (try dsimp only)) | (k_end; kc_close) | walk1 | (dsimp only; walk1) | (leave1; walk_say "STEP leave1"; (try dsimp only))))
            rename_i h9 tk9 F₈ N₈
            obtain ⟨X1, x1, x2, n1, N₉, lX⟩ : ∃ X1 x1 x2 n1, News g' L' h9 ((DL, oLst ((List.map (kindRef T0 T1 T2) ls).eraseIdx kk) (k4 + 1)) :: (SD, oLst ((sv.set (kk - 1) (Value.ref X1)).eraseIdx kk) (k1 + 1)) :: (X1, oLst ([Value.bytes #[40] x1] ++ w1 ++ w2 ++ [Value.bytes #[41] x2]) n1) :: (DD, oLst dv k3) :: fz) ∧ (DD < X1 ∧ SD < X1 ∧ DL < X1 ∧ AllLt X1 fz) := by
              rw [e1k, ekk] at N₈
              exact ⟨_, _, _, _, news_sub N₈ (by walk_at "MINE subl"), by assumption⟩
            clear N₈ hs1 hs2
            have hsl9 : (spans 0 bs).length = bs.length := spans_len 0 bs
            obtain ⟨pa, hpa⟩ : ∃ pa, (spans 0 bs)[kk - 1]? = some pa := ⟨_, List.getElem?_eq_getElem (by exact Nat.not_le.mp (fun u9 => lin [_, _, _, _, _] [] (.l 1 (.v 4) (.v 3) (.e 1 (.v 1) (.a (.v 0) (.c 1)) (.L 1 (.a (.a (.z (.v 2)) (.i 1)) (.i 1)) (.z (.v 1)) (.e (-1) (.v 4) (.v 0) (.l 1 (.v 3) (.v 2) .n))))) (by kernel_rfl) u9 hll hln hsl9 (Nat.sub_le _ _)))⟩
            obtain ⟨pb, hpb⟩ : ∃ pb, (spans 0 bs)[kk]? = some pb := ⟨_, List.getElem?_eq_getElem (by exact Nat.not_le.mp (fun u9 => lin [_, _, _, _] [] (.l 1 (.v 3) (.v 2) (.e 1 (.v 1) (.a (.v 0) (.c 1)) (.L 1 (.a (.a (.z (.v 2)) (.i 1)) (.i 1)) (.z (.v 1)) (.e (-1) (.v 3) (.v 0) .n)))) (by kernel_rfl) u9 hll hln hsl9))⟩
            obtain ⟨b1, hb1', B1, i1, d1, rfl, hB1, hI1⟩ := paired_at hpl hpa
            obtain ⟨b2, hb2', B2, i2, d2', rfl, hB2, hI2⟩ := paired_at hpl hpb
            have hp1 : pv[((kk : Int) - 1).toNat]? = some (.ref B1) := by rw [e1k]; exact hb1'
            have hp2 : pv[((kk : Int)).toNat]? = some (.ref B2) := by rw [ekk]; exact hb2'
            have hpn := span_next bs 0 (kk - 1) pa pb hpa (by rw [show kk - 1 + 1 = kk by exact linn [_, _, _] [] (.a (.v 2) (.c 1)) (.v 0) (.e 1 (.v 1) (.v 2) (.E (-1) (.z (.v 1)) (.s (.z (.v 0)) (.i 1)) .n)) (by kernel_rfl) e1k (Int.toNat_of_nonneg (Int.not_lt.mp (fun u9 => lin [_, _] [] (.L 1 (.a (.s (.z (.v 0)) (.i 1)) (.i 1)) (.i 0) (.e 1 (.a (.v 1) (.c 1)) (.v 0) .n)) (by kernel_rfl) u9 (Nat.sub_add_cancel (Nat.not_lt.mp (fun u9 => lin [_] [] (.l 1 (.a (.v 0) (.c 1)) (.c 1) (.l 1 (.c 1) (.v 0) .n)) (by kernel_rfl) u9 hk1))))))]; exact hpb)
            have hpi := (span_in bs 0 (kk - 1) pa hpa).2
            have hpj := (span_in bs 0 kk pb hpb).2
            have hi1 : i1.length = pa.2 := by rw [hI1.length]; simp
            have hi2 : i2.length = pb.2 := by rw [hI2.length]; simp
            rw [Nat.zero_add, hdl] at hpi hpj
            repeat' ((fail_if_success (with_reducible show wpAny _ _ (exec (PySem.Stmt.For _ _ _ _ _) _) _ _ _)); (fail_if_success (with_reducible show wpAny _ _ (exec (PySem.Stmt.While _ _ _ _) _) _ _ _)); (fail_if_success (with_reducible show wpAny _ _ (pyIter _) _ _ _)); (first | (k_unfold; (try dsimp only)) | (k_end; kc_close) | walk1 | (dsimp only; walk1) | (leave1; walk_say "STEP leave1"; (try dsimp only))))
            rename_i Y1 y1 lY1 B3 y2 lB3 Y3 y3 lY3 Y4 y4 lY4 Y5 y5 lY5 PN y6 lPN hh tk0 M0 F₁₀ N₁₀
            rw [e1k, e2k] at N₁₀
            replace N₁₀ := news_sub (r := (PN, oLst (List.take (kk - 1) pv ++ [Value.ref B3] ++ List.drop (kk + 1) pv) 0) :: (B3, oLst (i1 ++ i2) 0) :: (DL, oLst ((List.map (kindRef T0 T1 T2) ls).eraseIdx kk) (k4 + 1)) :: (SD, oLst ((sv.set (kk - 1) (Value.ref X1)).eraseIdx kk) (k1 + 1)) :: (X1, oLst ([Value.bytes #[40] x1] ++ w1 ++ w2 ++ [Value.bytes #[41] x2]) n1) :: (DD, oLst dv k3) :: fz) N₁₀ (by walk_at "MINE subl")
            have hPD : PN ≠ DD := neN (Nat.ne_of_gt (by first | exact lPN.2.2.2.2.2.2.2.2.1 | assumption))
            have hPS : PN ≠ SD := neN (Nat.ne_of_gt lPN.2.2.2.2.2.2.1)
            have hPL : PN ≠ DL := neN (Nat.ne_of_gt lPN.2.2.2.2.2.1)
            have hBD : B3 ≠ DD := neN (Nat.ne_of_gt lB3.2.2.2.2.1)
            have hBS : B3 ≠ SD := neN (Nat.ne_of_gt lB3.2.2.1)
            have hBL : B3 ≠ DL := neN (Nat.ne_of_gt lB3.2.1)
            have hXD : X1 ≠ DD := neN (Nat.ne_of_gt lX.1)
            have hXS : X1 ≠ SD := neN (Nat.ne_of_gt lX.2.1)
            have hXL : X1 ≠ DL := neN (Nat.ne_of_gt lX.2.2.1)
            have hI3 : IntsAre (i1 ++ i2) ((List.range' pa.1 (pa.2 + pb.2)).map fun n : Nat => (n : Int)) := by
              rw [← range_two, ← hpn]
              exact hI1.append hI2
            have hq1 : (List.take (kk - 1) pv ++ [Value.ref B3] ++ List.drop (kk + 1) pv)[((kk : Int) - 1).toNat]? = some (Value.ref B3) := by
              rw [e1k, List.append_assoc, List.getElem?_append_right (by rw [List.length_take]; exact Nat.not_lt.mp (fun u9 => lin [_, _] [] (.l 1 (.a (.v 0) (.c 1)) (.v 1) (.e 1 (.v 1) (.v 0) .n)) (by kernel_rfl) u9 (Nat.min_eq_left (Nat.not_lt.mp (fun u9 => lin [_, _, _, _, _] [] (.l 1 (.a (.v 1) (.c 1)) (.v 4) (.e (-1) (.v 1) (.v 0) (.e 1 (.v 2) (.a (.v 0) (.c 1)) (.L 1 (.a (.a (.z (.v 3)) (.i 1)) (.i 1)) (.z (.v 2)) (.l 1 (.v 4) (.v 3) .n))))) (by kernel_rfl) u9 hpl' hll hln (Nat.sub_le _ _)))))), List.length_take, show kk - 1 - min (kk - 1) pv.length = 0 by exact linn [_, _, _] [] (.v 1) (.c 0) (.e (-1) (.a (.v 1) (.v 2)) (.v 0) (.e 1 (.v 2) (.v 0) .n)) (by kernel_rfl) (Nat.sub_add_cancel (Nat.not_lt.mp (fun u9 => lin [_, _] [] (.l 1 (.a (.v 0) (.c 1)) (.v 1) (.e 1 (.v 1) (.v 0) .n)) (by kernel_rfl) u9 (Nat.min_eq_left (Nat.not_lt.mp (fun u9 => lin [_, _, _, _, _] [] (.l 1 (.a (.v 1) (.c 1)) (.v 4) (.e (-1) (.v 1) (.v 0) (.e 1 (.v 2) (.a (.v 0) (.c 1)) (.L 1 (.a (.a (.z (.v 3)) (.i 1)) (.i 1)) (.z (.v 2)) (.l 1 (.v 4) (.v 3) .n))))) (by kernel_rfl) u9 hpl' hll hln (Nat.sub_le _ _))))))) (Nat.min_eq_left (Nat.not_lt.mp (fun u9 => lin [_, _, _, _, _] [] (.l 1 (.a (.v 1) (.c 1)) (.v 4) (.e (-1) (.v 1) (.v 0) (.e 1 (.v 2) (.a (.v 0) (.c 1)) (.L 1 (.a (.a (.z (.v 3)) (.i 1)) (.i 1)) (.z (.v 2)) (.e 1 (.a (.v 4) (.c 1)) (.v 3) .n))))) (by kernel_rfl) u9 hpl' hll hln (Nat.sub_add_cancel (Nat.not_lt.mp (fun u9 => lin [_] [] (.l 1 (.a (.v 0) (.c 1)) (.c 1) (.l 1 (.c 1) (.v 0) .n)) (by kernel_rfl) u9 hk1))))))]
              rfl
            have hpb1 : pa.1 + (pa.2 + pb.2) ≤ rg.length - 1 := by exact Nat.not_lt.mp (fun u9 => lin [_, _, _, _, _] [] (.l 1 (.a (.v 0) (.c 1)) (.a (.v 2) (.a (.v 3) (.v 4))) (.e (-1) (.v 1) (.a (.v 2) (.v 3)) (.l 1 (.a (.v 1) (.v 4)) (.v 0) .n))) (by kernel_rfl) u9 hpn hpj)
            clear hp1 hp2 lY1 lB3 lY3 lY4 lY5 lPN
            refine For_invVF F₁₀ (by exact rfl) (by exact rfl) ?_
            repeat' ((fail_if_success (with_reducible show wpAny _ _ (exec (PySem.Stmt.For _ _ _ _ _) _) _ _ _)); (fail_if_success (with_reducible show wpAny _ _ (exec (PySem.Stmt.While _ _ _ _) _) _ _ _)); (fail_if_success (with_reducible show wpAny _ _ (pyIter _) _ _ _)); (first | (k_unfold; (try dsimp only)) | (k_end; kc_close) | walk1 | (dsimp only; walk1) | (leave1; walk_say "STEP leave1"; (try dsimp only))))
            rename Fr g' L' _ _ => F₁₁
            rename News g' L' _ _ => N₁₁
            refine iter_made (l := B3) (its := i1 ++ i2) (n := 0) (news := (PN, oLst (List.take (kk - 1) pv ++ [Value.ref B3] ++ List.drop (kk + 1) pv) 0) :: (DL, oLst ((List.map (kindRef T0 T1 T2) ls).eraseIdx kk) (k4 + 1)) :: (SD, oLst ((sv.set (kk - 1) (Value.ref X1)).eraseIdx kk) (k1 + 1)) :: (X1, oLst ([Value.bytes #[40] x1] ++ w1 ++ w2 ++ [Value.bytes #[41] x2]) n1) :: (DD, oLst dv k3) :: fz) (fun i m nw => ∃ dv' tc', m (Str.ofString "deep") = some (.ref DD) ∧ m (Str.ofString "lamps") = some (.ref DL) ∧ m (Str.ofString "sides") = some (.ref SD) ∧ m (Str.ofString "places") = some (.ref PN) ∧ m (Str.ofString "numbers") = some (.ref NU) ∧ m (Str.ofString "cuts") = some (.int (cuts + 1) tc') ∧
              nw = (PN, oLst (List.take (kk - 1) pv ++ [Value.ref B3] ++ List.drop (kk + 1) pv) 0) :: (DL, oLst ((List.map (kindRef T0 T1 T2) ls).eraseIdx kk) (k4 + 1)) :: (SD, oLst ((sv.set (kk - 1) (Value.ref X1)).eraseIdx kk) (k1 + 1)) :: (X1, oLst ([Value.bytes #[40] x1] ++ w1 ++ w2 ++ [Value.bytes #[41] x2]) n1) :: (DD, oLst dv' k3) :: fz ∧ IntsAre dv' (bump (deepOf bs) pa.1 i)) (by exact rfl) F₁₁ (news_sub N₁₁ (by walk_at "MINE subl")) (xi2 dv _ ⟨rfl, rfl, rfl, rfl, rfl, rfl, rfl, by rw [bump_zero]; exact hdv⟩) ?_ ?_
            · intro i v m₁ news₁ h tk I io hv h8q
              (try rw [hJ9] at h8q)
              refine xx2 h8q fun dv' tc' h9q => ?_
              refine aa8 h9q fun f1 f2 f3 f4 f5 f6 qe6 hdv' => ?_
              clear h9q
              subst qe6
              clear h8q
              intro hI hlt hBI F₁₂ N₁₂
              refine nameQ fun Qu hQu => ?_
              change Fr g' L' h _ at F₁₂
              change News g' L' h _ at N₁₂
              obtain ⟨x, tx, rfl, hx⟩ := ints_at hI3 hv
              obtain ⟨hi, rfl⟩ := range_at hx
              clear hv hx F₁₁ N₁₁
              first | refine expo1 F₁₂ f1 ?_ | refine expi1 F₁₂ f1 ?_
              clear F₁₂
              intro M9 F₁₂
              have hDI : DD ≠ I := fun e => hI (DD, oLst dv' k3) (.tail _ (.tail _ (.tail _ (.tail _ (.head _))))) e
              have hDI2 : I ≠ DD := hDI.symm
              have hbl2 : (bump (deepOf bs) pa.1 i).length = rg.length - 1 := by rw [bump_len _ _ _ (by exact Nat.not_lt.mp (fun u9 => lin [_, _, _, _, _, _, _] [] (.l 1 (.a (.v 1) (.c 1)) (.a (.v 3) (.v 6)) (.e (-1) (.v 1) (.v 0) (.e (-1) (.v 2) (.a (.v 3) (.v 4)) (.l 1 (.a (.v 2) (.v 5)) (.v 0) (.l 1 (.a (.v 6) (.c 1)) (.a (.v 4) (.v 5)) .n))))) (by kernel_rfl) u9 hdl hpn hpj hi)), hdl]
              have hdl3 : dv'.length = rg.length - 1 := by rw [hdv'.length, hbl2]
              have g1 : ((pa.1 + i : Nat) : Int) < ((bump (deepOf bs) pa.1 i).length : Int) := by exact Int.not_le.mp (fun u9 => lin [_, _, _, _, _, _, _] [] (.L 1 (.z (.v 6)) (.z (.a (.v 2) (.v 5))) (.e (-1) (.v 1) (.a (.v 2) (.v 3)) (.l 1 (.a (.v 1) (.v 4)) (.v 0) (.l 1 (.a (.v 5) (.c 1)) (.a (.v 3) (.v 4)) (.e (-1) (.v 6) (.v 0) .n))))) (by kernel_rfl) u9 hpn hpj hi hbl2)
              repeat' ((fail_if_success (with_reducible show wpAny _ _ (exec (PySem.Stmt.For _ _ _ _ _) _) _ _ _)); (fail_if_success (with_reducible show wpAny _ _ (exec (PySem.Stmt.While _ _ _ _) _) _ _ _)); (fail_if_success (with_reducible show wpAny _ _ (pyIter _) _ _ _)); (first | (k_unfold; (try dsimp only)) | (k_end; kc_close) | walk1 | (dsimp only; walk1) | (leave1; walk_say "STEP leave1"; (try dsimp only))))
              rename Fr g' L' _ _ => F₁₃
              rename News g' L' _ _ => N₁₃
              have exi : ((pa.1 + i : Nat) : Int).toNat = pa.1 + i := by exact linn [_, _, _] [] (.v 0) (.a (.v 1) (.v 2)) (.E (-1) (.z (.v 0)) (.z (.a (.v 1) (.v 2))) .n) (by kernel_rfl) (Int.toNat_of_nonneg (Int.not_lt.mp (fun u9 => lin [_, _] [] (.L 1 (.a (.z (.a (.v 0) (.v 1))) (.i 1)) (.i 0) .n) (by kernel_rfl) u9)))
              rw [exi] at N₁₃
              refine hQu _ _ ?_
              refine' TurnOk.intro (news' := (PN, oLst (List.take (kk - 1) pv ++ [Value.ref B3] ++ List.drop (kk + 1) pv) 0) :: (DL, oLst ((List.map (kindRef T0 T1 T2) ls).eraseIdx kk) (k4 + 1)) :: (SD, oLst ((sv.set (kk - 1) (Value.ref X1)).eraseIdx kk) (k1 + 1)) :: (X1, oLst ([Value.bytes #[40] x1] ++ w1 ++ w2 ++ [Value.bytes #[41] x2]) n1) :: (DD, oLst (dv'.set (pa.1 + i) (.int ((bump (deepOf bs) pa.1 i).getD (pa.1 + i) 0 + 1) ?tk8)) k3) :: fz) F₁₃ (news_sub N₁₃ ?e1) ?e2 ?e3
              case e1 => (simp only [List.cons_append, List.nil_append]; walk_at "MINE subl")
              case e2 =>
                intro q hq
                rcases List.mem_cons.mp hq with rfl | hq
                · exact hI (PN, _) (.head _)
                rcases List.mem_cons.mp hq with rfl | hq
                · exact hI (DL, _) (.tail _ (.head _))
                rcases List.mem_cons.mp hq with rfl | hq
                · exact hI (SD, _) (.tail _ (.tail _ (.head _)))
                rcases List.mem_cons.mp hq with rfl | hq
                · exact hI (X1, _) (.tail _ (.tail _ (.tail _ (.head _))))
                rcases List.mem_cons.mp hq with rfl | hq
                · exact hDI
                · exact hI q (.tail _ (.tail _ (.tail _ (.tail _ (.tail _ hq)))))
              case e3 => exact (xi2 _ _ ⟨rfl, f2, f3, f4, f5, f6, rfl, by rw [← bump_succ _ _ _ (by exact Nat.not_le.mp (fun u9 => lin [_, _, _, _, _, _, _] [] (.l 1 (.v 1) (.a (.v 3) (.v 6)) (.e (-1) (.v 1) (.v 0) (.e (-1) (.v 2) (.a (.v 3) (.v 4)) (.l 1 (.a (.v 2) (.v 5)) (.v 0) (.l 1 (.a (.v 6) (.c 1)) (.a (.v 4) (.v 5)) .n))))) (by kernel_rfl) u9 hdl hpn hpj hi))]; exact ints_set hdv' _ _ _⟩)
            · intro m₁ news₁ h tk h8q
              (try rw [hJ9] at h8q)
              refine xx2 h8q fun dv' tc' h9q => ?_
              refine aa8 h9q fun f1 f2 f3 f4 f5 f6 qe6 hdv' => ?_
              clear h9q
              subst qe6
              clear h8q
              intro F₁₂ N₁₂
              change Fr g' L' h _ at F₁₂
              change News g' L' h _ at N₁₂
              first | refine expo6 F₁₂ f1 f2 f3 f4 f5 f6 ?_ | refine expi6 F₁₂ f1 f2 f3 f4 f5 f6 ?_
              clear F₁₂
              intro M9 F₁₂
              clear F₁₁ N₁₁
              repeat' ((fail_if_success (with_reducible show wpAny _ _ (exec (PySem.Stmt.For _ _ _ _ _) _) _ _ _)); (fail_if_success (with_reducible show wpAny _ _ (exec (PySem.Stmt.While _ _ _ _) _) _ _ _)); (fail_if_success (with_reducible show wpAny _ _ (pyIter _) _ _ _)); (first | (k_unfold; (try dsimp only)) | (k_end; kc_close) | walk1 | (dsimp only; walk1) | (leave1; walk_say "STEP leave1"; (try dsimp only))))
              have hkj : kk - 1 + 1 = kk := by exact linn [_, _, _] [] (.a (.v 2) (.c 1)) (.v 0) (.e 1 (.v 1) (.v 2) (.E (-1) (.z (.v 1)) (.s (.z (.v 0)) (.i 1)) .n)) (by kernel_rfl) e1k (Int.toNat_of_nonneg (Int.not_lt.mp (fun u9 => lin [_, _] [] (.L 1 (.a (.s (.z (.v 0)) (.i 1)) (.i 1)) (.i 0) (.e 1 (.a (.v 1) (.c 1)) (.v 0) .n)) (by kernel_rfl) u9 (Nat.sub_add_cancel (Nat.not_lt.mp (fun u9 => lin [_] [] (.l 1 (.a (.v 0) (.c 1)) (.c 1) (.l 1 (.c 1) (.v 0) .n)) (by kernel_rfl) u9 hk1))))))
              have hkj2 : kk - 1 + 2 = kk + 1 := by exact linn [_, _] [] (.a (.v 0) (.c 2)) (.a (.v 1) (.c 1)) (.e (-1) (.a (.v 0) (.c 1)) (.v 1) .n) (by kernel_rfl) hkj
              have hup : ∀ q ∈ fz, q ∈ (B3, oLst (i1 ++ i2) 0) :: (PN, oLst (List.take (kk - 1) pv ++ [Value.ref B3] ++ List.drop (kk + 1) pv) 0) :: (X1, oLst ([Value.bytes #[40] x1] ++ w1 ++ w2 ++ [Value.bytes #[41] x2]) n1) :: fz := fun q hq => .tail _ (.tail _ (.tail _ hq))
              have hkb : kk - 1 + 1 < bs.length := by exact Nat.not_le.mp (fun u9 => lin [_, _, _, _] [] (.l 1 (.v 0) (.a (.v 3) (.c 1)) (.e 1 (.v 1) (.a (.v 0) (.c 1)) (.L 1 (.a (.a (.z (.v 2)) (.i 1)) (.i 1)) (.z (.v 1)) (.e 1 (.a (.v 3) (.c 1)) (.v 2) .n)))) (by kernel_rfl) u9 hll hln (Nat.sub_add_cancel (Nat.not_lt.mp (fun u9 => lin [_, _] [] (.l 1 (.a (.v 0) (.c 1)) (.c 1) (.e 1 (.a (.v 1) (.c 1)) (.v 0) .n)) (by kernel_rfl) u9 (Nat.sub_add_cancel (Nat.not_lt.mp (fun u9 => lin [_, _] [] (.l 1 (.a (.v 0) (.c 1)) (.c 1) (.e 1 (.a (.v 1) (.c 1)) (.v 0) .n)) (by kernel_rfl) u9 hkj)))))))
              have hcl := cutB_len bs (kk - 1) hkb
              have hJ' := hJ.cut (k := kk) (by exact Nat.not_lt.mp (fun u9 => lin [_] [] (.l 1 (.a (.v 0) (.c 1)) (.c 1) (.l 1 (.c 1) (.v 0) .n)) (by kernel_rfl) u9 hk1)) (by exact Nat.not_le.mp (fun u9 => lin [_, _, _] [] (.l 1 (.v 0) (.v 2) (.e 1 (.v 1) (.a (.v 0) (.c 1)) (.L 1 (.a (.a (.z (.v 2)) (.i 1)) (.i 1)) (.z (.v 1)) .n))) (by kernel_rfl) u9 hll hln)) (by rw [hls]; exact hkf)
              have hlc := ls_cut (rg.getD 0 0) bs (kk - 1) hkb (chain_kne bs _ hinv.ch)
              rw [hls, hkj] at hlc
              have hDLm : (List.map (kindRef T0 T1 T2) ls).eraseIdx kk = List.map (kindRef T0 T1 T2) (lsOf (rg.getD 0 0) (cutB bs (kk - 1))) := by
                rw [hlc]; simp only [List.eraseIdx_eq_take_drop_succ, List.map_append, List.map_take, List.map_drop]
              rw [hDLm] at N₁₂
              rw [show (i1 ++ i2).length = pa.2 + pb.2 by rw [List.length_append]; exact linn [_, _, _, _] [] (.a (.v 0) (.v 2)) (.a (.v 1) (.v 3)) (.e (-1) (.v 0) (.v 1) (.e (-1) (.v 2) (.v 3) .n)) (by kernel_rfl) hi1 hi2] at hdv'
              have hdc := deep_cut bs (kk - 1) 0 [] rfl hkb pa pb hpa (by rw [hkj]; exact hpb)
              rw [List.nil_append, List.nil_append] at hdc
              rw [← hdc] at hdv'
              refine' WhileStep.intro (n' := (cutB bs (kk - 1)).length) (news₂ := (DD, oLst dv' k3) :: (SD, oLst ((sv.set (kk - 1) (Value.ref X1)).eraseIdx kk) (k1 + 1)) :: (DL, oLst (List.map (kindRef T0 T1 T2) (lsOf (rg.getD 0 0) (cutB bs (kk - 1)))) (k4 + 1)) :: (B3, oLst (i1 ++ i2) 0) :: (PN, oLst (List.take (kk - 1) pv ++ [Value.ref B3] ++ List.drop (kk + 1) pv) 0) :: (X1, oLst ([Value.bytes #[40] x1] ++ w1 ++ w2 ++ [Value.bytes #[41] x2]) n1) :: fz) F₁₂ (news_sub N₁₂ ?e1) (by exact Nat.not_le.mp (fun u9 => lin [_, _] [] (.l 1 (.v 0) (.v 1) (.e 1 (.a (.v 1) (.c 1)) (.v 0) .n)) (by kernel_rfl) u9 hcl)) (j3 hJ9 (xi12 (cutB bs (kk - 1)) dv' ((sv.set (kk - 1) (Value.ref X1)).eraseIdx kk) (List.take (kk - 1) pv ++ [Value.ref B3] ++ List.drop (kk + 1) pv) PN _ 0 _ _ _ (cuts + 1) tc' ⟨rfl, hJ', rfl, rfl, rfl, rfl, rfl, rfl, rfl, ?e2, ?e3, ?e4, hdv', ?e5, ?e6, by exact Int.not_lt.mp (fun u9 => lin [] [_] (.L 1 (.a (.a (.v 0) (.i 1)) (.i 1)) (.i 0) (.L 1 (.i 0) (.v 0) .n)) (by kernel_rfl) u9 hc0), by exact linz [_, _, _] [_] (.a (.a (.v 0) (.i 1)) (.z (.v 2))) (.s (.z (.v 1)) (.i 1)) (.E (-1) (.a (.v 0) (.z (.v 0))) (.s (.z (.v 1)) (.i 1)) (.e (-1) (.a (.v 2) (.c 1)) (.v 0) .n)) (by kernel_rfl) hc1 hcl⟩))
              case e1 => walk_at "MINE subl"
              case e2 =>
                have q := cut_set (SideOk _) bs sv (kk - 1) (.ref X1) (paired_mono (fun _ _ => SideOk.mono hup) hsd) hkb fun a b ha hb => ?_
                · rw [hkj] at q
                  exact q
                · rw [hba] at ha
                  rw [hkj, hbb] at hb
                  cases ha; cases hb
                  refine ⟨X1, _, _, rfl, .tail _ (.tail _ (.head _)), ?_⟩
                  show Paired _ (Value.bytes #[40] x1 :: (w1 ++ w2 ++ [Value.bytes #[41] x2])) (Pce.op :: (ba.pcs ++ bb.pcs ++ [Pce.cl]))
                  exact .cons ⟨x1, rfl⟩ (paired_app (paired_app hP1 hP2) (.cons ⟨x2, rfl⟩ .nil))
              case e3 => exact .tail _ (.head _)
              case e4 =>
                have q := span_cut (PlaceOk _) bs 0 pv (kk - 1) (.ref B3) (paired_mono (fun _ _ => PlaceOk.mono hup) hpl) hkb fun p q hp hq _ => ?_
                · rw [hkj2] at q
                  exact q
                · rw [hpa] at hp
                  rw [hkj, hpb] at hq
                  cases hp; cases hq
                  exact ⟨B3, _, _, rfl, .head _, hI3⟩
              case e5 =>
                intro q hq
                rcases List.mem_cons.mp hq with rfl | hq
                · exact ⟨hBS, hBD, hBL⟩
                rcases List.mem_cons.mp hq with rfl | hq
                · exact ⟨hPS, hPD, hPL⟩
                rcases List.mem_cons.mp hq with rfl | hq
                · exact ⟨hXS, hXD, hXL⟩
                · exact hfz q hq
              case e6 => exact fun q hq => hup q (hsub q hq)
      · have htwo := hinv.ls.two
        rw [hls] at htwo
        obtain ⟨b9, rfl⟩ : ∃ b9, bs = [b9] := List.length_eq_one_iff.mp (by (rename_i w0; exact Nat.le_antisymm (Nat.not_lt.mp (fun u9 => lin [_, _] [] (.l 1 (.a (.c 1) (.c 1)) (.v 0) (.e (-1) (.v 1) (.a (.v 0) (.c 1)) (.L 1 (.z (.v 1)) (.i 2) .n))) (by kernel_rfl) u9 hll (Int.not_lt.mp w0))) (Nat.not_lt.mp (fun u9 => lin [_, _] [] (.l 1 (.a (.v 0) (.c 1)) (.c 1) (.e 1 (.v 1) (.a (.v 0) (.c 1)) (.l 1 (.c 2) (.v 1) .n))) (by kernel_rfl) u9 hll htwo))))
        obtain ⟨v1, hv1, SA, w1, cc1, rfl, hA1, hP1⟩ := paired_at hsd (i := 0) (b := b9) rfl
        have hs1 : sv[(0 : Int).toNat]? = some (.ref SA) := hv1
        have hsl1 : sv.length = 1 := hsl
        repeat' ((fail_if_success (with_reducible show wpAny _ _ (exec (PySem.Stmt.For _ _ _ _ _) _) _ _ _)); (fail_if_success (with_reducible show wpAny _ _ (exec (PySem.Stmt.While _ _ _ _) _) _ _ _)); (fail_if_success (with_reducible show wpAny _ _ (pyIter _) _ _ _)); (first | (k_unfold; (try dsimp only)) | (k_end; kc_close) | walk1 | (dsimp only; walk1) | (leave1; walk_say "STEP leave1"; (try dsimp only))))
        rename Fr h₀ L _ _ => FF
        rename News h₀ L _ _ => NN
        refine hret _ [(_, oTup #[.ref SA, .ref DD] 0), (SA, oLst w1 cc1), (DD, oLst dv k3)] _ _ FF (news_sub NN ?_) ⟨_, SA, DD, w1, dv, 0, cc1, k3, b9, rfl, rfl, hP1, ?_, hJ⟩
        · intro q hq
          rcases List.mem_cons.mp hq with rfl | hq
          · exact .head _
          rcases List.mem_cons.mp hq with rfl | hq
          · exact .tail _ (.tail _ (.tail _ (.tail _ hA1)))
          rcases List.mem_cons.mp hq with rfl | hq
          · exact .tail _ (.head _)
          · exact .tail _ (.tail _ (.tail _ (.tail _ (hsub q (.tail _ hq)))))
        · have e9 : deepOf [b9] = b9.deps := by simp [deepOf]
          rw [← e9]
          exact hdv
end
section
theorem c_parenN (w : World) (p : Program) (loose : List Str) (mean : ExcName → Option Value) (mg mb : Str → Option Value) (ps : List Pce) (t u : Tok) (d : Int) (news : Led) (hz : ps.length ≤ 1000) (hzb : (bB ps).length ≤ 10000) :
    CT w p loose mean mg mb 44 [.bytes (bB ps).toArray t, .int d u] 2 news (fun r own => ∃ t', r = .int (d + net ps) t' ∧ own = []) := by
  have h := c_paren w p loose mean mg mb ps t u d news hz hzb
  have e : d + ((bB (brk ps)).count 40 : Nat) - ((bB (brk ps)).count 41 : Nat) = d + net ps := by have := net_count ps; exact linz [_, _] [_, _] (.s (.a (.v 1) (.z (.v 0))) (.z (.v 1))) (.a (.v 1) (.v 0)) (.E (-1) (.s (.z (.v 0)) (.z (.v 1))) (.v 0) .n) (by kernel_rfl) this
  rw [e] at h
  exact h
noncomputable def LampOk (r g b : Int) (fz : Led) (v : Value) (k : Int) : Prop := ∃ a t0 t1 t2 n, v = .ref a ∧ (a, oTup #[.int (c1 r g b k) t0, .int (c2 r g b k) t1, .int (c3 r g b k) t2] n) ∈ fz ∧ Tri k
theorem LampOk.mono {r g b : Int} {fz fz' : Led} {v : Value} {k : Int} (hs : ∀ p ∈ fz, p ∈ fz') (h : LampOk r g b fz v k) : LampOk r g b fz' v k := by
  obtain ⟨a, t0, t1, t2, n, e, m, q⟩ := h; exact ⟨a, t0, t1, t2, n, e, hs _ m, q⟩
theorem slice_head {prog : Program} {w : World} {A : Around} {E : Value → Shared → Prop} {s : Shared} {value slice : PySem.Expr} {b : Array UInt8} {t u : Tok} {h₀ : Heap} {L : Addr} {m : Str → Option Value} {news : Led} {c : UInt8} {Q : Value → Shared → Prop} (hF : Fr h₀ L s.heap m) (hN : News h₀ L s.heap news) (hb : b.toList.head? = some c) (hz : b.size ≤ 16777216)
    (h : ∀ h' t' k, Fr h₀ L h' m → News h₀ L h' news → Q (.bytes #[c] t') { s with heap := h', toks := k })
    (hs : subscripted slice false (.bytes b t) (.ref s.heap.objs.size) = operate [.ref s.heap.objs.size, .bytes b t] (getItem (.bytes b t) (.ref s.heap.objs.size)) := by with_unfolding_all rfl)
    (ht : ∀ r, letTemporaryGo value (.bytes b t) r = pure () := by intro _; with_unfolding_all rfl) :
    wpAny (model prog w) A (subscriptTail value slice (.bytes b t) (.ref s.heap.objs.size)) Q E { s with heap := s.heap.push { cls := .type "slice", data := .fields #[.none, .int 1 u, .none] } } := by
  have e : KBy.picked b none (some 1) = #[c] := by
    rw [KBc.picked_eq]
    apply Array.toList_inj.mp
    cases hl : b.toList with
    | nil => rw [hl] at hb; cases hb
    | cons x r =>
      rw [hl] at hb
      cases hb
      have hsz : b.size = r.length + 1 := by rw [← Array.length_toList, hl]; rfl
      simp [hsz, clipAt]
      rw [show (max 0 (min 1 ((r.length : Int) + 1))).toNat = 1 by lia]
      rfl
  refine KBc.slice_K hF hN rfl IsPart.none (IsPart.int 1 u) (by rw [KBw.ints_length]; exact hz) (fun h' t' k F N _ => ?_) hs ht
  rw [e]
  exact h h' t' k F N
theorem lab_head (j : Fin 6) : (pB (.lab j)).toArray.toList.head? = some 34 := by
  match j with
  | 0 => rfl
  | 1 => rfl
  | 2 => rfl
  | 3 => rfl
  | 4 => rfl
  | 5 => rfl
noncomputable abbrev RetWalk (r g b k0 k1 : Int) (ps : List Pce) (news : Led) (res : Value) (own : Led) : Prop :=
  ∃ D WL DP wv dv t kw kd n own', res = .ref D ∧ own = (D, oTup #[.ref WL, .ref DP, .int (net ps) t] n) :: (WL, oLst wv kw) :: (DP, oLst dv kd) :: own' ∧ Paired (LampOk r g b (own' ++ news)) wv (k0 :: walkK k0 (k1 - k0) (depthsOf 0 ps)) ∧ IntsAre dv (depthsOf 0 ps)
local macro_rules | `(tactic| walk_at "subscriptTail") => `(tactic| (k_here; (with_reducible refine' slice_head ?_ ?_ ?_ ?_ ?_); walk_at "MINE go"))
local macro_rules | `(tactic| walk_at "binaryOp Div int int") => `(tactic| (k_here; (with_reducible refine' div16 ?_ ?_ ?_); walk_at "MINE go"))
local macro_rules | `(tactic| walk_at "MINE go3") => `(tactic| first | ((with_reducible refine' c_hsv ..); walk_at "MINE cs") | ((with_reducible refine' c_turnedK ..); walk_at "MINE cs"))
local macro_rules | `(tactic| walk_at "MINE goV") => `(tactic| first | ((with_reducible refine' c_isub ..); walk_at "MINE cs") | ((with_reducible refine' c_parenN ..); walk_at "MINE cs") | ((with_reducible refine' c_iaddB ..); walk_at "MINE cs") | ((with_reducible refine' c_ixor ..); walk_at "MINE cs"))

theorem c_walk (w : World) (p : Program) (loose : List Str) (mean : ExcName → Option Value) (mg mb : Str → Option Value) (SA T0 T1 T2 : Addr) (vs : List Value) (ps : List Pce) (n : Nat) (r g b k0 k1 : Int) (news : Led) (hm : (SA, oLst vs n) ∈ news) (hP : PcsAre vs ps) (H : Lmp T0 T1 T2 r g b news) (HR : Rng r g b) (hk0 : Tri k0) (hk1 : Tri k1) (hne : k0 ≠ k1) (hz : ps.length ≤ 50) :
    CTN w p loose mean mg mb 171 [.ref SA, .ref (kA T0 T1 T2 k0), .ref (kA T0 T1 T2 k1)] 10 news (RetWalk r g b k0 k1 ps news) := by
  intro dp un gd cn cs a9 ccd cl outer A₀ base h₀ L m s Q E B F X N T hk hdp hu hret
  refine wpAny_call ?_
  k_dflt (refine' code_def (binds := [(Str.ofString "line", Value.ref SA), (Str.ofString "first", Value.ref (kA T0 T1 T2 k0)), (Str.ofString "last", Value.ref (kA T0 T1 T2 k1))]) ?k1 ?k2 ?k3 ?k4 ?k5 ?kA ?kF ?kK ?k6 ?k7 ?k8 ?k9 ?kB ?_ ?c2 ?c3 ?c4 ?c5; (case kA => exact rfl); (case kF => exact rfl); (case kK => assumption); (case k1 => k_asm); (case k2 => k_asm); (case k3 => k_asm); (case k4 => k_asm); (case k5 => k_asm); (case k6 => k_is); (case k7 => k_is); (case k8 => ktr_room); (case k9 => exact BindsTo.of_eq rfl); (case c5 => decide); (case kB => exact locs rfl); (case c2 => exact rfl); (case c3 => exact rfl); (case c4 => exact rfl); k_whole; intro g' L' h' FG' F' N' B' X' T'; (try dsimp only); (try k_lift B'); (try k_fold))
  have ok0 := okc_kind HR hk0
  have ok1 := okc_kind HR hk1
  obtain ⟨x0, y0, z0, n0, hm0⟩ := H.mem hk0
  obtain ⟨x1, y1, z1, n1, hm1⟩ := H.mem hk1
  have hth := th_kinds HR hk0 hk1 hne
  unfold thF vM hueK at hth
  obtain ⟨hfin, hth⟩ := hth
  have b1 := c_range H hk0
  have b2 := c_range H hk1
  have b3 : (c1 r g b k0).natAbs < 1000 ∧ (c2 r g b k0).natAbs < 1000 ∧ (c3 r g b k0).natAbs < 1000 := by exact ⟨Nat.not_le.mp (fun u9 => lin [_] [_] (.l 1 (.c 1000) (.v 0) (.L 1 (.v 0) (.i 16) (.E 1 (.z (.v 0)) (.v 0) .n))) (by kernel_rfl) u9 b1.1.2 (Int.natAbs_of_nonneg (Int.not_lt.mp (fun u9 => lin [] [_] (.L 1 (.a (.v 0) (.i 1)) (.i 0) (.L 1 (.i 0) (.v 0) .n)) (by kernel_rfl) u9 b1.1.1)))), ⟨Nat.not_le.mp (fun u9 => lin [_] [_] (.l 1 (.c 1000) (.v 0) (.L 1 (.v 0) (.i 16) (.E 1 (.z (.v 0)) (.v 0) .n))) (by kernel_rfl) u9 b1.2.1.2 (Int.natAbs_of_nonneg (Int.not_lt.mp (fun u9 => lin [] [_] (.L 1 (.a (.v 0) (.i 1)) (.i 0) (.L 1 (.i 0) (.v 0) .n)) (by kernel_rfl) u9 b1.2.1.1)))), Nat.not_le.mp (fun u9 => lin [_] [_] (.l 1 (.c 1000) (.v 0) (.L 1 (.v 0) (.i 16) (.E 1 (.z (.v 0)) (.v 0) .n))) (by kernel_rfl) u9 b1.2.2.2 (Int.natAbs_of_nonneg (Int.not_lt.mp (fun u9 => lin [] [_] (.L 1 (.a (.v 0) (.i 1)) (.i 0) (.L 1 (.i 0) (.v 0) .n)) (by kernel_rfl) u9 b1.2.2.1))))⟩⟩
  have b4 : (c1 r g b k1).natAbs < 1000 ∧ (c2 r g b k1).natAbs < 1000 ∧ (c3 r g b k1).natAbs < 1000 := by exact ⟨Nat.not_le.mp (fun u9 => lin [_] [_] (.l 1 (.c 1000) (.v 0) (.L 1 (.v 0) (.i 16) (.E 1 (.z (.v 0)) (.v 0) .n))) (by kernel_rfl) u9 b2.1.2 (Int.natAbs_of_nonneg (Int.not_lt.mp (fun u9 => lin [] [_] (.L 1 (.a (.v 0) (.i 1)) (.i 0) (.L 1 (.i 0) (.v 0) .n)) (by kernel_rfl) u9 b2.1.1)))), ⟨Nat.not_le.mp (fun u9 => lin [_] [_] (.l 1 (.c 1000) (.v 0) (.L 1 (.v 0) (.i 16) (.E 1 (.z (.v 0)) (.v 0) .n))) (by kernel_rfl) u9 b2.2.1.2 (Int.natAbs_of_nonneg (Int.not_lt.mp (fun u9 => lin [] [_] (.L 1 (.a (.v 0) (.i 1)) (.i 0) (.L 1 (.i 0) (.v 0) .n)) (by kernel_rfl) u9 b2.2.1.1)))), Nat.not_le.mp (fun u9 => lin [_] [_] (.l 1 (.c 1000) (.v 0) (.L 1 (.v 0) (.i 16) (.E 1 (.z (.v 0)) (.v 0) .n))) (by kernel_rfl) u9 b2.2.2.2 (Int.natAbs_of_nonneg (Int.not_lt.mp (fun u9 => lin [] [_] (.L 1 (.a (.v 0) (.i 1)) (.i 0) (.L 1 (.i 0) (.v 0) .n)) (by kernel_rfl) u9 b2.2.2.1))))⟩⟩
  clear b1 b2
  repeat' ((fail_if_success (with_reducible show wpAny _ _ (exec (PySem.Stmt.For _ _ _ _ _) _) _ _ _)); (fail_if_success (with_reducible show wpAny _ _ (exec (PySem.Stmt.While _ _ _ _) _) _ _ _)); (fail_if_success (with_reducible show wpAny _ _ (pyIter _) _ _ _)); (first | (k_unfold; (try dsimp only)) | (k_end; kc_close) | walk1 | (dsimp only; walk1) | (leave1; walk_say "STEP leave1"; (try dsimp only))))
  all_goals (try (exfalso; first | exact fin_nan hfin (by assumption) | exact fin_inf hfin (by assumption)))
  rename Fr g' L' _ _ => F₁
  rename News g' L' _ _ => N₁
  rename_i WL g5 lWL g4 tq4 mq4 DP g3 lDP g2 tq2 mq2 g1 tq1 mq1 hh tq0 mq0
  dsimp (zetaDelta := true) only at F₁
  rw [hth] at F₁
  clear hth hfin
  have hWD : WL ≠ DP := neN (Nat.ne_of_lt lDP.1)
  have hDW : DP ≠ WL := hWD.symm
  replace N₁ := news_sub (r := (WL, oLst [Value.ref (kA T0 T1 T2 k0)] 0) :: (DP, oLst [] 0) :: news) N₁ (by walk_at "MINE subl")
  have hnW : ∀ q ∈ news, q.1 ≠ WL ∧ q.1 ≠ DP := fun q hq => ⟨neN (Nat.ne_of_lt (ktn_ltOf lWL.2.2 q hq)), neN (Nat.ne_of_lt (ktn_ltOf lDP.2.2.2 q hq))⟩
  refine For_invVF F₁ (by exact rfl) (by exact rfl) ?_
  repeat' ((fail_if_success (with_reducible show wpAny _ _ (exec (PySem.Stmt.For _ _ _ _ _) _) _ _ _)); (fail_if_success (with_reducible show wpAny _ _ (exec (PySem.Stmt.While _ _ _ _) _) _ _ _)); (fail_if_success (with_reducible show wpAny _ _ (pyIter _) _ _ _)); (first | (k_unfold; (try dsimp only)) | (k_end; kc_close) | walk1 | (dsimp only; walk1) | (leave1; walk_say "STEP leave1"; (try dsimp only))))
  rename Fr g' L' _ _ => F₂
  rename News g' L' _ _ => N₂
  refine iter_made (l := SA) (its := vs) (n := n) (news := (WL, oLst [Value.ref (kA T0 T1 T2 k0)] 0) :: (DP, oLst [] 0) :: news) (fun i m nw => ∃ wl aL kl kL dv qs told hb t1 t2 t3 kw kd fz, m (Str.ofString "walk") = some (.ref WL) ∧ m (Str.ofString "depths") = some (.ref DP) ∧ m (Str.ofString "told") = some (.int told t1) ∧ m (Str.ofString "held") = some (.bytes hb t2) ∧ m (Str.ofString "thirds") = some (.int (Int.fmod (k1 - k0) 3) t3) ∧
    nw = (WL, oLst (wl ++ [.ref aL]) kw) :: (DP, oLst dv kd) :: fz ∧ hb = (bB qs).toArray ∧ told + net qs = net (ps.take i) ∧ qs.length ≤ i ∧ IntsAre dv (depthsOf 0 (ps.take i)) ∧ Paired (LampOk r g b fz) (wl ++ [.ref aL]) (kl ++ [kL]) ∧ kl ++ [kL] = k0 :: walkK k0 (k1 - k0) (depthsOf 0 (ps.take i)) ∧
    (∀ q ∈ fz, q.1 ≠ WL ∧ q.1 ≠ DP) ∧ (∀ q ∈ news, q ∈ fz)) (by exact rfl) F₂ (news_front (.tail _ (.tail _ hm)) N₂) (xi14 [] (kA T0 T1 T2 k0) [] k0 [] [] 0 (#[]) _ _ _ 0 0 news ⟨rfl, rfl, rfl, rfl, rfl, rfl, rfl, rfl, Nat.le_refl _, .nil, .cons ⟨_, x0, y0, z0, n0, rfl, hm0, hk0⟩ .nil, rfl, hnW, fun _ h => h⟩) ?_ ?_
  · intro i v m₁ news₁ h tk I io hv h8q
    (try rw [hJ9] at h8q)
    refine xx14 h8q fun wl aL kl kL dv qs told hb t1 t2 t3 kw kd fz h9q => ?_
    refine aa14 h9q fun e1 e2 e3 e4 e5 qe5 qe6 hq1 hq2 hdv hwl hkl hfz hsub => ?_
    clear h9q
    subst qe5
    subst qe6
    clear h8q
    intro hI hlt hSI F₃ N₃
    refine nameQ fun Qt hQt => ?_
    change Fr g' L' h _ at F₃
    change News g' L' h _ at N₃
    obtain ⟨p9, hp9, tp, rfl⟩ := paired_at1 hP hv
    first | refine expo5 F₃ e1 e2 e3 e4 e5 ?_ | refine expi5 F₃ e1 e2 e3 e4 e5 ?_
    clear F₃
    intro M9 F₃
    obtain ⟨a', u0, u1, u2, n3, ea, hmL, hkT⟩ := paired_snoc hwl
    cases ea
    obtain ⟨hx1, hx2⟩ := xor_step (k := kL) (d := told + net qs) hk0 hk1 hne
    have hips : i < ps.length := (List.getElem?_eq_some_iff.mp hp9).1
    have hts := take_snoc hp9
    have hWI : WL ≠ I := fun e => hI (WL, _) (.head _) e
    have hDI : DP ≠ I := fun e => hI (DP, _) (.tail _ (.head _)) e
    have hIW : I ≠ WL := hWI.symm
    have hID : I ≠ DP := hDI.symm
    have hSW : SA ≠ WL := (hfz _ (hsub _ hm)).1
    have hSD : SA ≠ DP := (hfz _ (hsub _ hm)).2
    have hf1 : ∀ q ∈ fz, q.1 ≠ WL := fun q hq => (hfz q hq).1
    have hf2 : ∀ q ∈ fz, q.1 ≠ DP := fun q hq => (hfz q hq).2
    have hdl : dv.length ≤ 50 := by
      have q1 := depths_len (ps.take i) 0
      rw [hdv.length]
      rw [List.length_take] at q1
      exact Nat.not_lt.mp (fun u9 => lin [_, _, _, _] [] (.l 1 (.a (.c 50) (.c 1)) (.v 2) (.l 1 (.v 0) (.c 50) (.l 1 (.a (.v 1) (.c 1)) (.v 0) (.l 1 (.v 2) (.v 3) (.e 1 (.v 3) (.v 1) .n))))) (by kernel_rfl) u9 hz hips q1 (Nat.min_eq_left (Nat.not_lt.mp (fun u9 => lin [_, _] [] (.l 1 (.a (.v 0) (.c 1)) (.v 1) (.l 1 (.a (.v 1) (.c 1)) (.v 0) .n)) (by kernel_rfl) u9 hips))))
    have hwll : wl.length ≤ 60 := by
      have q1 := depths_len (ps.take i) 0
      have q2 := paired_len hwl
      rw [hkl] at q2
      simp only [List.length_append, List.length_cons, List.length_nil, walk_len, List.length_take] at q1 q2
      exact Nat.not_lt.mp (fun u9 => lin [_, _, _, _, _] [] (.l 1 (.a (.c 60) (.c 1)) (.v 4) (.l 1 (.v 0) (.c 50) (.l 1 (.a (.v 1) (.c 1)) (.v 0) (.l 1 (.v 2) (.v 3) (.e 1 (.a (.v 4) (.c (0 + 1))) (.a (.v 2) (.c 1)) (.e 1 (.v 3) (.v 1) .n)))))) (by kernel_rfl) u9 hz hips q1 q2 (Nat.min_eq_left (Nat.not_lt.mp (fun u9 => lin [_, _] [] (.l 1 (.a (.v 0) (.c 1)) (.v 1) (.l 1 (.a (.v 1) (.c 1)) (.v 0) .n)) (by kernel_rfl) u9 hips))))
    have hqb := bB_len qs
    have hz1 : qs.length ≤ 1000 := by exact Nat.not_lt.mp (fun u9 => lin [_, _, _] [] (.l 1 (.a (.c 1000) (.c 1)) (.v 1) (.l 1 (.v 0) (.c 50) (.l 1 (.v 1) (.v 2) (.l 1 (.a (.v 2) (.c 1)) (.v 0) .n)))) (by kernel_rfl) u9 hz hq2 hips)
    have hz2 : (bB qs).length ≤ 10000 := by exact Nat.not_lt.mp (fun u9 => lin [_, _] [] (.l 1 (.a (.c 10000) (.c 1)) (.v 0) (.l 1 (.v 0) (.m 5 (.v 1)) (.l 5 (.v 1) (.c 1000) .n))) (by kernel_rfl) u9 hqb hz1)
    have hz3 := pB_len p9
    have hz4 : (pB p9).toArray.size ≤ 16777216 := by rw [List.size_toArray]; exact Nat.not_lt.mp (fun u9 => lin [_] [] (.l 1 (.a (.c 16777216) (.c 1)) (.v 0) (.l 1 (.v 0) (.c 5) .n)) (by kernel_rfl) u9 hz3)
    clear F₂ N₂ hv
    cases p9 with
    | op =>
      have hhd : (pB .op).toArray.toList.head? = some 40 := rfl
      repeat' ((fail_if_success (with_reducible show wpAny _ _ (exec (PySem.Stmt.For _ _ _ _ _) _) _ _ _)); (fail_if_success (with_reducible show wpAny _ _ (exec (PySem.Stmt.While _ _ _ _) _) _ _ _)); (fail_if_success (with_reducible show wpAny _ _ (pyIter _) _ _ _)); (first | (k_unfold; (try dsimp only)) | (k_end; kc_close) | walk1 | (dsimp only; walk1) | (leave1; walk_say "STEP leave1"; (try dsimp only))))
      rename Fr g' L' _ _ => F₄
      rename News g' L' _ _ => N₄
      refine hQt _ _ ?_
      refine' TurnOk.intro (news' := (WL, oLst (wl ++ [.ref aL]) kw) :: (DP, oLst dv kd) :: fz) F₄ (news_sub N₄ ?ec1) hI ?ec3
      case ec1 => (simp only [List.cons_append, List.nil_append]; walk_at "MINE subl")
      case ec3 => exact (xi14 wl aL kl kL dv (qs ++ [.op]) told _ t1 _ t3 kw kd fz ⟨rfl, rfl, rfl, rfl, rfl, rfl, (bB_snoc _ _).symm, by rw [hts, net_op, net_op]; exact linz [] [_, _, _] (.a (.v 0) (.a (.v 1) (.i 1))) (.a (.v 2) (.i 1)) (.E (-1) (.a (.v 0) (.v 1)) (.v 2) .n) (by kernel_rfl) hq1, by rw [List.length_append]; simp; exact Nat.not_lt.mp (fun u9 => lin [_, _] [] (.l 1 (.a (.v 1) (.c 1)) (.v 0) (.l 1 (.v 0) (.v 1) .n)) (by kernel_rfl) u9 hq2), by rw [hts, depths_op]; exact hdv, hwl, by rw [hts, depths_op]; exact hkl, hfz, hsub⟩)
    | cl =>
      have hhd : (pB .cl).toArray.toList.head? = some 41 := rfl
      repeat' ((fail_if_success (with_reducible show wpAny _ _ (exec (PySem.Stmt.For _ _ _ _ _) _) _ _ _)); (fail_if_success (with_reducible show wpAny _ _ (exec (PySem.Stmt.While _ _ _ _) _) _ _ _)); (fail_if_success (with_reducible show wpAny _ _ (pyIter _) _ _ _)); (first | (k_unfold; (try dsimp only)) | (k_end; kc_close) | walk1 | (dsimp only; walk1) | (leave1; walk_say "STEP leave1"; (try dsimp only))))
      rename Fr g' L' _ _ => F₄
      rename News g' L' _ _ => N₄
      refine hQt _ _ ?_
      refine' TurnOk.intro (news' := (WL, oLst (wl ++ [.ref aL]) kw) :: (DP, oLst dv kd) :: fz) F₄ (news_sub N₄ ?ed1) hI ?ed3
      case ed1 => (simp only [List.cons_append, List.nil_append]; walk_at "MINE subl")
      case ed3 => exact (xi14 wl aL kl kL dv (qs ++ [.cl]) told _ t1 _ t3 kw kd fz ⟨rfl, rfl, rfl, rfl, rfl, rfl, (bB_snoc _ _).symm, by rw [hts, net_cl, net_cl]; exact linz [] [_, _, _] (.a (.v 0) (.s (.v 1) (.i 1))) (.s (.v 2) (.i 1)) (.E (-1) (.a (.v 0) (.v 1)) (.v 2) .n) (by kernel_rfl) hq1, by rw [List.length_append]; simp; exact Nat.not_lt.mp (fun u9 => lin [_, _] [] (.l 1 (.a (.v 1) (.c 1)) (.v 0) (.l 1 (.v 0) (.v 1) .n)) (by kernel_rfl) u9 hq2), by rw [hts, depths_cl]; exact hdv, hwl, by rw [hts, depths_cl]; exact hkl, hfz, hsub⟩)
    | lab j =>
      have hhd := lab_head j
      repeat' ((fail_if_success (with_reducible show wpAny _ _ (exec (PySem.Stmt.For _ _ _ _ _) _) _ _ _)); (fail_if_success (with_reducible show wpAny _ _ (exec (PySem.Stmt.While _ _ _ _) _) _ _ _)); (fail_if_success (with_reducible show wpAny _ _ (pyIter _) _ _ _)); (first | (k_unfold; (try dsimp only)) | (k_end; kc_close) | walk1 | (dsimp only; walk1) | (leave1; walk_say "STEP leave1"; (try dsimp only))))
      · rename_i hh tq mq F₄ N₄
        rw [hx2] at N₄
        obtain ⟨D9, a0, a1, a2, n9, td, N₅, l9⟩ : ∃ D9 a0 a1 a2 n9 td, News g' L' hh ((WL, oLst (wl ++ [Value.ref aL] ++ [Value.ref D9]) (kw + 1)) :: (D9, oTup #[.int (c1 r g b (stepK kL (k1 - k0) (told + net qs))) a0, .int (c2 r g b (stepK kL (k1 - k0) (told + net qs))) a1, .int (c3 r g b (stepK kL (k1 - k0) (told + net qs))) a2] n9) :: (DP, oLst (dv ++ [Value.int (told + net qs) td]) (kd + 1)) :: (I, io) :: (SA, oLst vs n) :: fz) ∧ (DP < D9 ∧ I < D9 ∧ SA < D9 ∧ WL < D9 ∧ AllLt D9 fz) := ⟨_, _, _, _, _, _, N₄, by assumption⟩
        have hup : ∀ q ∈ fz, q ∈ (D9, oTup #[.int (c1 r g b (stepK kL (k1 - k0) (told + net qs))) a0, .int (c2 r g b (stepK kL (k1 - k0) (told + net qs))) a1, .int (c3 r g b (stepK kL (k1 - k0) (told + net qs))) a2] n9) :: fz := fun q hq => .tail _ hq
        refine hQt _ _ ?_
        refine' TurnOk.intro (news' := (WL, oLst (wl ++ [Value.ref aL] ++ [Value.ref D9]) (kw + 1)) :: (DP, oLst (dv ++ [Value.int (told + net qs) td]) (kd + 1)) :: (D9, oTup #[.int (c1 r g b (stepK kL (k1 - k0) (told + net qs))) a0, .int (c2 r g b (stepK kL (k1 - k0) (told + net qs))) a1, .int (c3 r g b (stepK kL (k1 - k0) (told + net qs))) a2] n9) :: fz) F₄ (news_sub N₅ ?ea1) ?ea2 ?ea3
        case ea1 => (simp only [List.cons_append, List.nil_append]; walk_at "MINE subl")
        case ea2 =>
          intro q hq
          rcases List.mem_cons.mp hq with rfl | hq
          · exact hWI
          rcases List.mem_cons.mp hq with rfl | hq
          · exact hDI
          rcases List.mem_cons.mp hq with rfl | hq
          · exact neN (Nat.ne_of_gt l9.2.1)
          · exact hI q (.tail _ (.tail _ hq))
        case ea3 =>
          refine (xi14 (wl ++ [Value.ref aL]) D9 (kl ++ [kL]) (stepK kL (k1 - k0) (told + net qs)) (dv ++ [Value.int (told + net qs) td]) ([.lab j]) (told + net qs) _ _ _ t3 (kw + 1) (kd + 1) ((D9, oTup #[.int (c1 r g b (stepK kL (k1 - k0) (told + net qs))) a0, .int (c2 r g b (stepK kL (k1 - k0) (told + net qs))) a1, .int (c3 r g b (stepK kL (k1 - k0) (told + net qs))) a2] n9) :: fz) ⟨rfl, rfl, rfl, rfl, rfl, rfl, (by show _ = (pB (.lab j) ++ []).toArray; simp), (by rw [hts, net_lab, ← hq1]; show _ + 0 = _; exact linz [] [_, _] (.a (.a (.v 0) (.v 1)) (.i 0)) (.a (.v 0) (.v 1)) .n (by kernel_rfl)), (by simp), ?_, ?_, ?_, ?_, fun q hq => hup q (hsub q hq)⟩)
          · rw [hts, depths_lab, ← hq1]; exact ints_snoc hdv _ _
          · exact paired_app (paired_mono (fun _ _ => LampOk.mono hup) hwl) (.cons ⟨D9, a0, a1, a2, n9, rfl, .head _, stepK_tri _ _ _⟩ .nil)
          · rw [hts, depths_lab, ← hq1]; exact last_walk hkl _
          · intro q hq
            rcases List.mem_cons.mp hq with rfl | hq
            · exact ⟨neN (Nat.ne_of_gt l9.2.2.2.1), neN (Nat.ne_of_gt l9.1)⟩
            · exact hfz q hq
      · rename_i hh tq mq F₄ N₄
        rw [hx2] at N₄
        obtain ⟨D9, a0, a1, a2, n9, td, N₅, l9⟩ : ∃ D9 a0 a1 a2 n9 td, News g' L' hh ((WL, oLst (wl ++ [Value.ref aL] ++ [Value.ref D9]) (kw + 1)) :: (D9, oTup #[.int (c1 r g b (stepK kL (k1 - k0) (told + net qs))) a0, .int (c2 r g b (stepK kL (k1 - k0) (told + net qs))) a1, .int (c3 r g b (stepK kL (k1 - k0) (told + net qs))) a2] n9) :: (DP, oLst (dv ++ [Value.int (told + net qs) td]) (kd + 1)) :: (I, io) :: (SA, oLst vs n) :: fz) ∧ (DP < D9 ∧ I < D9 ∧ SA < D9 ∧ WL < D9 ∧ AllLt D9 fz) := ⟨_, _, _, _, _, _, N₄, by assumption⟩
        have hup : ∀ q ∈ fz, q ∈ (D9, oTup #[.int (c1 r g b (stepK kL (k1 - k0) (told + net qs))) a0, .int (c2 r g b (stepK kL (k1 - k0) (told + net qs))) a1, .int (c3 r g b (stepK kL (k1 - k0) (told + net qs))) a2] n9) :: fz := fun q hq => .tail _ hq
        refine hQt _ _ ?_
        refine' TurnOk.intro (news' := (WL, oLst (wl ++ [Value.ref aL] ++ [Value.ref D9]) (kw + 1)) :: (DP, oLst (dv ++ [Value.int (told + net qs) td]) (kd + 1)) :: (D9, oTup #[.int (c1 r g b (stepK kL (k1 - k0) (told + net qs))) a0, .int (c2 r g b (stepK kL (k1 - k0) (told + net qs))) a1, .int (c3 r g b (stepK kL (k1 - k0) (told + net qs))) a2] n9) :: fz) F₄ (news_sub N₅ ?eb1) ?eb2 ?eb3
        case eb1 => (simp only [List.cons_append, List.nil_append]; walk_at "MINE subl")
        case eb2 =>
          intro q hq
          rcases List.mem_cons.mp hq with rfl | hq
          · exact hWI
          rcases List.mem_cons.mp hq with rfl | hq
          · exact hDI
          rcases List.mem_cons.mp hq with rfl | hq
          · exact neN (Nat.ne_of_gt l9.2.1)
          · exact hI q (.tail _ (.tail _ hq))
        case eb3 =>
          refine (xi14 (wl ++ [Value.ref aL]) D9 (kl ++ [kL]) (stepK kL (k1 - k0) (told + net qs)) (dv ++ [Value.int (told + net qs) td]) (qs ++ [.lab j]) told _ _ _ t3 (kw + 1) (kd + 1) ((D9, oTup #[.int (c1 r g b (stepK kL (k1 - k0) (told + net qs))) a0, .int (c2 r g b (stepK kL (k1 - k0) (told + net qs))) a1, .int (c3 r g b (stepK kL (k1 - k0) (told + net qs))) a2] n9) :: fz) ⟨rfl, rfl, rfl, rfl, rfl, rfl, (bB_snoc _ _).symm, (by rw [hts, net_lab, net_lab]; exact hq1), (by rw [List.length_append]; simp; exact Nat.not_lt.mp (fun u9 => lin [_, _] [] (.l 1 (.a (.v 1) (.c 1)) (.v 0) (.l 1 (.v 0) (.v 1) .n)) (by kernel_rfl) u9 hq2)), ?_, ?_, ?_, ?_, fun q hq => hup q (hsub q hq)⟩)
          · rw [hts, depths_lab, ← hq1]; exact ints_snoc hdv _ _
          · exact paired_app (paired_mono (fun _ _ => LampOk.mono hup) hwl) (.cons ⟨D9, a0, a1, a2, n9, rfl, .head _, stepK_tri _ _ _⟩ .nil)
          · rw [hts, depths_lab, ← hq1]; exact last_walk hkl _
          · intro q hq
            rcases List.mem_cons.mp hq with rfl | hq
            · exact ⟨neN (Nat.ne_of_gt l9.2.2.2.1), neN (Nat.ne_of_gt l9.1)⟩
            · exact hfz q hq
  · intro m₁ news₁ h tk h8q
    (try rw [hJ9] at h8q)
    refine xx14 h8q fun wl aL kl kL dv qs told hb t1 t2 t3 kw kd fz h9q => ?_
    refine aa14 h9q fun e1 e2 e3 e4 e5 qe5 qe6 hq1 hq2 hdv hwl hkl hfz hsub => ?_
    clear h9q
    subst qe5
    subst qe6
    clear h8q
    intro F₃ N₃
    change Fr g' L' h _ at F₃
    change News g' L' h _ at N₃
    first | refine expo4 F₃ e1 e2 e3 e4 ?_ | refine expi4 F₃ e1 e2 e3 e4 ?_
    clear F₃
    intro M9 F₃
    rw [paired_len hP, List.take_length] at hq1 hdv hkl
    rw [paired_len hP] at hq2
    have hqb := bB_len qs
    have hz1 : qs.length ≤ 1000 := by exact Nat.not_lt.mp (fun u9 => lin [_, _] [] (.l 1 (.a (.c 1000) (.c 1)) (.v 1) (.l 1 (.v 0) (.c 50) (.l 1 (.v 1) (.v 0) .n))) (by kernel_rfl) u9 hz hq2)
    have hz2 : (bB qs).length ≤ 10000 := by exact Nat.not_lt.mp (fun u9 => lin [_, _, _] [] (.l 1 (.a (.c 10000) (.c 1)) (.v 2) (.l 5 (.v 0) (.c 50) (.l 5 (.v 1) (.v 0) (.l 1 (.v 2) (.m 5 (.v 1)) .n)))) (by kernel_rfl) u9 hz hq2 hqb)
    clear F₂ N₂
    repeat' ((fail_if_success (with_reducible show wpAny _ _ (exec (PySem.Stmt.For _ _ _ _ _) _) _ _ _)); (fail_if_success (with_reducible show wpAny _ _ (exec (PySem.Stmt.While _ _ _ _) _) _ _ _)); (fail_if_success (with_reducible show wpAny _ _ (pyIter _) _ _ _)); (first | (k_unfold; (try dsimp only)) | (k_end; kc_close) | walk1 | (dsimp only; walk1) | (leave1; walk_say "STEP leave1"; (try dsimp only))))
    rename Fr h₀ L _ _ => FF
    rename News h₀ L _ _ => NN
    rw [hq1] at NN
    rename_i DT hT F9 N9 l9 T9 X9
    obtain ⟨td, NN2⟩ : ∃ td, News h₀ L hT ((DT, oTup #[.ref WL, .ref DP, .int (net ps) td] 0) :: (SA, oLst vs n) :: (WL, oLst (wl ++ [.ref aL]) kw) :: (DP, oLst dv kd) :: fz) := ⟨_, NN⟩
    refine' hret _ ((DT, oTup #[.ref WL, .ref DP, .int (net ps) td] 0) :: (WL, oLst (wl ++ [.ref aL]) kw) :: (DP, oLst dv kd) :: fz) _ _ FF (news_sub NN2 ?e1) ⟨DT, WL, DP, wl ++ [.ref aL], dv, td, kw, kd, 0, fz, rfl, rfl, ?e2, hdv⟩
    case e1 =>
      refine sub_cons' (.head _) fun q hq => ?_
      rcases List.mem_append.mp hq with hq | hq
      · exact .tail _ (.tail _ hq)
      · exact .tail _ (.tail _ (.tail _ (.tail _ (hsub q hq))))
    case e2 =>
      rw [← hkl]
      exact paired_mono (fun _ _ => LampOk.mono fun q hq => List.mem_append_left _ hq) hwl
end
section
local macro_rules | `(tactic| walk_at "subscriptTail") => `(tactic| (k_here; (with_reducible refine get_kind (by walk_at "MINE s0") (by walk_at "MINE mem") (by walk_at "MINE ar") (by walk_at "MINE ar") (by walk_at "MINE ar") ?_); walk_at "MINE o2"))
local macro_rules | `(tactic| walk_at "subscriptTail") => `(tactic| (k_here; (with_reducible refine' back_kind ?_ ?_ ?_ ?_ ?_); walk_at "MINE go"))

theorem lmp_in {h₀ h : Heap} {L : Addr} {news l : Led} {T0 T1 T2 : Addr} {r g b : Int} (N : News h₀ L h news) (H : Lmp T0 T1 T2 r g b l) (hs : ∀ p ∈ l, p ∈ news) : Lmp T0 T1 T2 r g b news := H.mono hs
theorem red_in (ns : List Int) : Rng (redOf ns) (greenOf ns) (blueOf ns) := by
  unfold redOf greenOf blueOf
  constructor <;> simp only [Int.fmod_eq_emod_of_nonneg _ (show (0 : Int) ≤ 8 by decide), Int.fmod_eq_emod_of_nonneg _ (show (0 : Int) ≤ 17 by decide), Int.fmod_eq_emod_of_nonneg _ (show (0 : Int) ≤ 9 by decide)] <;> lia
theorem grey_sum (r g b : Int) {k : Int} (hk : Tri k) : c1 r g b k + c2 r g b k + c3 r g b k = r + g + b := by
  rcases hk with rfl | rfl | rfl <;> simp [c1, c2, c3] <;> (first | exact linz [] [_, _, _] (.a (.a (.v 0) (.v 1)) (.v 2)) (.a (.a (.v 1) (.v 2)) (.v 0)) .n (by kernel_rfl) | exact linz [] [_, _, _] (.a (.a (.v 0) (.v 1)) (.v 2)) (.a (.a (.v 2) (.v 0)) (.v 1)) .n (by kernel_rfl))
theorem lawx : PySem.Challenge.rw_wu0035_01.Holds := hd (by
  k_fill
  intro w s₀ s₁ mg mb G Y fa o pm cd doc dV kV ho hd9 hcd hD hmg hg args vals as hpre hlay hrd hwl hlo
  have KX := kIn_of Y
  have X := (Ground.X G).1
  have V := (Ground.X G).2
  have GL := glob_more (Ground.glob G (by decide +kernel) (by decide +kernel)) V
  refine Ground.open G ?_
  intro T B D TE TW
  try (refine guard_noD D (by decide +kernel) ?_; clear D)
  obtain ⟨_, _, M⟩ := bmod_of_top T
  have TA := at_of_top T
  try (obtain ⟨_, _, he, B0⟩ := based_of_top T rfl hmg ho hd9; have he' : cd = _ := he; subst he'; clear he)
  clear hmg
  wrow_args hpre hlay hrd hwl hlo
  all_goals (
    first | refine callC_kw (enter_call ?_) | refine enter_call ?_ | refine callC_kw (enter_callW ?_) | refine enter_callW ?_ | w_how
    w_top on
    try refine codeAny_mono ?_ (fun _ _ g => GoodW.toG g)
    have K0 := below_caller (Top.heap T)
    w_call any ho hd9 hcd hD T F
    clear hd9 TA
    k_drop
    skip)
  (all_goals try k_fold)
  rename IntsAre _ _ => hI
  rename List Int => script
  rename List Value => svs
  rename Addr => LS
  rename Heap.IsList _ _ _ => hL
  rename Fr _ _ _ _ => F₀
  rename News _ _ _ _ => N₀
  repeat' ((fail_if_success (with_reducible show wpAny _ _ (exec (PySem.Stmt.For _ _ _ _ _) _) _ _ _)); (fail_if_success (with_reducible show wpAny _ _ (exec (PySem.Stmt.While _ _ _ _) _) _ _ _)); (fail_if_success (with_reducible show wpAny _ _ (pyIter _) _ _ _)); (fail_if_success (with_reducible show wpAny _ _ (subscriptTail _ _ _ _) _ _ _)); (fail_if_success (with_reducible show wpAny _ _ (eval (PySem.Expr.ListComp _ _ _ _) _) _ _ _)); (first | (k_unfold; (try dsimp only)) | (k_end; kc_close) | walk1 | (dsimp only; walk1) | (leave1; walk_say "STEP leave1"; (try dsimp only))))
  walk1
  rename_i D1 ws1 hh1 F₁ N₁ hI1 hC1 hL1 l1
  have hlen1 : ws1.length ≤ 6 := by rw [hI1.length, hC1]; exact Nat.not_lt.mp (fun u9 => lin [_] [] (.l 1 (.a (.c 6) (.c 1)) (.v 0) (.l 1 (.v 0) (.c 6) .n)) (by kernel_rfl) u9 (Nat.min_le_left _ _))
  repeat' ((fail_if_success (with_reducible show wpAny _ _ (exec (PySem.Stmt.For _ _ _ _ _) _) _ _ _)); (fail_if_success (with_reducible show wpAny _ _ (exec (PySem.Stmt.While _ _ _ _) _) _ _ _)); (fail_if_success (with_reducible show wpAny _ _ (pyIter _) _ _ _)); (fail_if_success (with_reducible show wpAny _ _ (eval (PySem.Expr.ListComp _ _ _ _) _) _ _ _)); (fail_if_success (with_reducible show wpAny _ _ (call _ _ _) _ _ _)); (first | (k_unfold; (try dsimp only)) | (k_end; kc_close) | walk1 | (dsimp only; walk1) | (leave1; walk_say "STEP leave1"; (try dsimp only))))
  walk1
  rename_i D2 cc2 hh2 F₂ N₂ l2
  repeat' ((fail_if_success (with_reducible show wpAny _ _ (exec (PySem.Stmt.For _ _ _ _ _) _) _ _ _)); (fail_if_success (with_reducible show wpAny _ _ (exec (PySem.Stmt.While _ _ _ _) _) _ _ _)); (fail_if_success (with_reducible show wpAny _ _ (pyIter _) _ _ _)); (fail_if_success (with_reducible show wpAny _ _ (eval (PySem.Expr.ListComp _ _ _ _) _) _ _ _)); (fail_if_success (with_reducible show wpAny _ _ (call _ _ _) _ _ _)); (fail_if_success (with_reducible show wpAny _ _ (subscriptTail _ _ _ _) _ _ _)); (first | (k_unfold; (try dsimp only)) | (k_end; kc_close) | walk1 | (dsimp only; walk1) | (leave1; walk_say "STEP leave1"; (try dsimp only))))
  refine kba_turn (value' := PySem.Expr.Name (PySem.Str.ofString "_") ⟨0, 0, 0, 0⟩) (fun _ => rfl) ?_
  walk1
  rename_i X3 hx3 lx3 X4 hx4 lx4 X5 hx5 F₃ N₃ lx5
  obtain ⟨t3, t1, t4, t2, N₃⟩ : ∃ t3 t1 t4 t2, News _ _ hx5 [(X5, oLst (List.take 6 (ws1 ++ [Value.int 3 t3, Value.int 1 t1, Value.int 4 t4, Value.int 2 t2])) 0)] := ⟨_, _, _, _, news_sub N₃ (by walk_at "MINE subl")⟩
  have hI5 : IntsAre (List.take 6 (ws1 ++ [Value.int 3 t3, Value.int 1 t1, Value.int 4 t4, Value.int 2 t2])) (List.take 6 (script.take 6 ++ [3, 1, 4, 2])) := (hI1.append (.cons _ _ (.cons _ _ (.cons _ _ (.cons _ _ .nil))))).take 6
  generalize List.take 6 (ws1 ++ [Value.int 3 t3, Value.int 1 t1, Value.int 4 t4, Value.int 2 t2]) = ws5 at N₃ hI5
  have hl5 : ws5.length = (List.take 6 (script.take 6 ++ [3, 1, 4, 2])).length := hI5.length
  walk1
  repeat' ((fail_if_success (with_reducible show wpAny _ _ (exec (PySem.Stmt.For _ _ _ _ _) _) _ _ _)); (fail_if_success (with_reducible show wpAny _ _ (exec (PySem.Stmt.While _ _ _ _) _) _ _ _)); (fail_if_success (with_reducible show wpAny _ _ (pyIter _) _ _ _)); (fail_if_success (with_reducible show wpAny _ _ (call _ _ _) _ _ _)); (first | (k_unfold; (try dsimp only)) | (k_end; kc_close) | walk1 | (dsimp only; walk1) | (leave1; walk_say "STEP leave1"; (try dsimp only))))
  all_goals (try k_data)
  rename_i NU nv hh6 tk6 F₆ N6 d6 l6 c6 nX N₆ iX
  rw [List.filter_eq_self.mpr (fun _ _ => rfl)] at iX
  have hln9 : 4 ≤ (List.map (fun a => Int.fmod a 1000000) (List.take 6 (List.take 6 script ++ [3, 1, 4, 2]))).length ∧ (List.map (fun a => Int.fmod a 1000000) (List.take 6 (List.take 6 script ++ [3, 1, 4, 2]))).length ≤ 6 := by
    simp only [List.length_map, List.length_take, List.length_append, List.length_cons, List.length_nil]; exact ⟨Or.elim (Nat.le_total (6) (script.length)) (fun q0 => Nat.not_lt.mp (fun u9 => lin [_] [] (.l 1 (.a (.v 0) (.c 1)) (.c 4) (.e (-1) (.v 0) (.c 6) .n)) (by kernel_rfl) u9 (Nat.min_eq_left (Nat.not_lt.mp (fun u9 => lin [_] [] (.l 1 (.a (.a (.v 0) (.c ((((0 + 1) + 1) + 1) + 1))) (.c 1)) (.c 6) (.e (-1) (.v 0) (.c 6) .n)) (by kernel_rfl) u9 (Nat.min_eq_left (Nat.not_lt.mp (fun u9 => lin [_] [] (.l 1 (.a (.v 0) (.c 1)) (.c 6) (.l 1 (.c 6) (.v 0) .n)) (by kernel_rfl) u9 q0)))))))) (fun q0 => Or.elim (Nat.le_total (6) (min 6 script.length + (0 + 1 + 1 + 1 + 1))) (fun q1 => Nat.not_lt.mp (fun u9 => lin [_] [] (.l 1 (.a (.v 0) (.c 1)) (.c 4) (.e (-1) (.v 0) (.c 6) .n)) (by kernel_rfl) u9 (Nat.min_eq_left (Nat.not_lt.mp (fun u9 => lin [_] [] (.l 1 (.a (.a (.v 0) (.c ((((0 + 1) + 1) + 1) + 1))) (.c 1)) (.c 6) (.l 1 (.c 6) (.a (.v 0) (.c ((((0 + 1) + 1) + 1) + 1))) .n)) (by kernel_rfl) u9 q1))))) (fun q1 => Nat.not_lt.mp (fun u9 => lin [_, _, _] [] (.l 1 (.a (.v 2) (.c 1)) (.c 4) (.e (-1) (.v 0) (.v 1) (.e (-1) (.v 2) (.a (.v 0) (.c ((((0 + 1) + 1) + 1) + 1))) .n))) (by kernel_rfl) u9 (Nat.min_eq_right (Nat.not_lt.mp (fun u9 => lin [_] [] (.l 1 (.a (.c 6) (.c 1)) (.v 0) (.l 1 (.v 0) (.c 6) .n)) (by kernel_rfl) u9 q0))) (Nat.min_eq_right (Nat.not_lt.mp (fun u9 => lin [_] [] (.l 1 (.a (.c 6) (.c 1)) (.a (.v 0) (.c ((((0 + 1) + 1) + 1) + 1))) (.l 1 (.a (.v 0) (.c ((((0 + 1) + 1) + 1) + 1))) (.c 6) .n)) (by kernel_rfl) u9 q1)))))), Nat.not_lt.mp (fun u9 => lin [_] [] (.l 1 (.a (.c 6) (.c 1)) (.v 0) (.l 1 (.v 0) (.c 6) .n)) (by kernel_rfl) u9 (Nat.min_le_left _ _))⟩
  have hrg9 : ∀ x ∈ List.map (fun a => Int.fmod a 1000000) (List.take 6 (List.take 6 script ++ [3, 1, 4, 2])), 0 ≤ x ∧ x < 1000000 := by
    intro x hx
    obtain ⟨y, _, rfl⟩ := List.mem_map.mp hx
    exact ⟨Int.fmod_nonneg_of_pos _ (by decide), Int.fmod_lt_of_pos _ (by decide)⟩
  generalize List.map (fun a => Int.fmod a 1000000) (List.take 6 (List.take 6 script ++ [3, 1, 4, 2])) = ns at iX hln9 hrg9
  obtain ⟨n0, n1, n2, n3, nr, rfl⟩ : ∃ n0 n1 n2 n3 nr, ns = n0 :: n1 :: n2 :: n3 :: nr := by
    obtain ⟨h1, h2⟩ := hln9
    match ns, h1 with
    | n0 :: n1 :: n2 :: n3 :: nr, _ => exact ⟨n0, n1, n2, n3, nr, rfl⟩
  cases iX with | cons _ u0 iX =>
  cases iX with | cons _ u1 iX =>
  cases iX with | cons _ u2 iX =>
  cases iX with | cons _ u3 iX =>
  have hnr : nr.length ≤ 2 := by have := hln9.2; simp only [List.length_cons] at this; exact Nat.not_lt.mp (fun u9 => lin [_] [] (.l 1 (.a (.c 2) (.c 1)) (.v 0) (.l 1 (.a (.a (.a (.a (.v 0) (.c 1)) (.c 1)) (.c 1)) (.c 1)) (.c 6) .n)) (by kernel_rfl) u9 this)
  clear N6 d6 l6 c6
  rename_i nv
  refine' (c_ring _ _ _ _ _ _ NU n0 n1 n2 n3 u0 u1 u2 u3 nv nr nX _ ?hmZ iX hnr hrg9) _ _ _ _ _ _ _ _ _ _ _ _ _ _ _ _ _ ?k1Z ?k2Z ?k3Z ?k4Z ?k5Z ?kKZ ?kdZ ?kuZ ?_
  case k1Z => k_asm
  case k2Z => k_asm
  case k3Z => k_asm
  case k4Z => exact N₆
  case k5Z => k_asm
  case kKZ => first | exact rfl | assumption
  case kdZ => ktr_room
  case kuZ => ktr_units
  case hmZ => exact .head _
  intro r9 own9 h9 tk9 F₇ N₇ p9
  refine xx11 p9 fun RG T0 T1 T2 x9 y9 z9 m0 m1 m2 m9 h9q => ?_
  refine aa8 h9q fun qe0 b1 b2 b3 b4 b5 b6 qe7 => ?_
  clear h9q
  subst qe0
  subst qe7
  clear p9
  simp only [List.cons_append, List.nil_append] at N₇
  obtain ⟨hro, hrl1, hrl2⟩ := ring_ok (n0 :: n1 :: n2 :: n3 :: nr) (by simp) hln9.2
  have HR := red_in (n0 :: n1 :: n2 :: n3 :: nr)
  generalize redOf (n0 :: n1 :: n2 :: n3 :: nr) = r at N₇ HR
  generalize greenOf (n0 :: n1 :: n2 :: n3 :: nr) = g at N₇ HR
  generalize blueOf (n0 :: n1 :: n2 :: n3 :: nr) = b at N₇ HR
  generalize ring (n0 :: n1 :: n2 :: n3 :: nr) = rg at N₇ hro hrl1 hrl2
  have HL : Lmp T0 T1 T2 r g b [(T0, oTup #[.int r x9, .int g y9, .int b z9] m0), (T1, oTup #[.int b z9, .int r x9, .int g y9] m1), (T2, oTup #[.int g y9, .int b z9, .int r x9] m2)] :=
    ⟨⟨x9, y9, z9, m0, m1, m2, b1, b2, b3, b4, b5, b6, .head _, .tail _ (.head _), .tail _ (.tail _ (.head _))⟩, HR.l, ⟨HR.b0, HR.g0⟩, ⟨HR.r1, HR.g1⟩⟩
  have hns9 : IntsAre (.int n0 u0 :: .int n1 u1 :: .int n2 u2 :: .int n3 u3 :: nv) (n0 :: n1 :: n2 :: n3 :: nr) := .cons _ _ (.cons _ _ (.cons _ _ (.cons _ _ iX)))
  have hk0 : Tri (rg.getD 0 0) := tri_at hro.tri (by exact Nat.not_le.mp (fun u9 => lin [_] [] (.l 1 (.v 0) (.c 0) (.l 1 (.c 7) (.v 0) .n)) (by kernel_rfl) u9 hrl1))
  have hk1 : Tri (rg.getD (rg.length - 1) 0) := tri_at hro.tri (by exact Nat.not_le.mp (fun u9 => lin [_, _] [] (.l 1 (.v 0) (.v 1) (.e 1 (.a (.v 1) (.c 1)) (.v 0) .n)) (by kernel_rfl) u9 (Nat.sub_add_cancel (Nat.not_lt.mp (fun u9 => lin [_] [] (.l 1 (.a (.v 0) (.c 1)) (.c 1) (.l 1 (.c 7) (.v 0) .n)) (by kernel_rfl) u9 hrl1)))))
  have hzz : rg.getD ((0 : Int)).toNat 0 = rg.getD 0 0 := rfl
  clear N₆ F₆
  repeat' ((fail_if_success (with_reducible show wpAny _ _ (exec (PySem.Stmt.For _ _ _ _ _) _) _ _ _)); (fail_if_success (with_reducible show wpAny _ _ (exec (PySem.Stmt.While _ _ _ _) _) _ _ _)); (fail_if_success (with_reducible show wpAny _ _ (pyIter _) _ _ _)); (fail_if_success (with_reducible show wpAny _ _ (call _ _ _) _ _ _)); (first | (k_unfold; (try dsimp only)) | (k_end; kc_close) | walk1 | (dsimp only; walk1) | (leave1; walk_say "STEP leave1"; (try dsimp only))))
  rename Fr _ _ _ _ => F₈
  rename News _ _ _ _ => N₈
  have HL8 := lmp_in N₈ HL (by walk_at "MINE subl")
  obtain ⟨q1, q2, q3, q4, hq⟩ := HL8.mem hk0
  rw [hzz]
  refine sum_t3 (by exact rfl) F₈ N₈ hq ?_
  intro h8 tk8 tg F₉ N₉
  rw [grey_sum r g b hk0]
  clear F₈ N₈ hq
  repeat' ((fail_if_success (with_reducible show wpAny _ _ (exec (PySem.Stmt.For _ _ _ _ _) _) _ _ _)); (fail_if_success (with_reducible show wpAny _ _ (exec (PySem.Stmt.While _ _ _ _) _) _ _ _)); (fail_if_success (with_reducible show wpAny _ _ (pyIter _) _ _ _)); (fail_if_success (with_reducible show wpAny _ _ (call _ _ _) _ _ _)); (first | (k_unfold; (try dsimp only)) | (k_end; kc_close) | walk1 | (dsimp only; walk1) | (leave1; walk_say "STEP leave1"; (try dsimp only))))
  refine' (c_line _ _ _ _ _ _ RG NU T0 T1 T2 rg (n0 :: n1 :: n2 :: n3 :: nr) (.int n0 u0 :: .int n1 u1 :: .int n2 u2 :: .int n3 u3 :: nv) (r + g + b) r g b tg m9 nX _ rfl ?hRAA ?hNAA hns9 HL8 (by simp) hln9.2 hrl1 hrl2 hro.tri hro) _ _ _ _ _ _ _ _ _ _ _ _ _ _ _ _ _ ?k1AA ?k2AA ?k3AA ?k4AA ?k5AA ?kKAA ?kdAA ?kuAA ?_
  case k1AA => k_asm
  case k2AA => k_asm
  case k3AA => k_asm
  case k4AA => exact N₉
  case k5AA => k_asm
  case kKAA => first | exact rfl | assumption
  case kdAA => ktr_room
  case kuAA => ktr_units
  case hRAA => exact .head _
  case hNAA => walk_at "MINE mem"
  intro r9 own9 h9' tk9' F₇ N₇ p9
  refine xx9 p9 fun DT SA DD vs9 dv9 w1 w2 w3 b9 h9q => ?_
  refine aa5 h9q fun qe0 qe1 hP9 hd9 hJ9 => ?_
  clear h9q
  subst qe0
  subst qe1
  clear p9
  simp only [List.cons_append, List.nil_append] at N₇
  have hone := one_left hJ9.inv
  have hfl := hJ9.flat
  rw [show ([b9] : List Blk).flatMap (·.kds) = b9.kds by simp] at hfl
  have hpl := hJ9.pcs
  rw [show ([b9] : List Blk).flatMap (·.pcs) = b9.pcs by simp] at hpl
  have hpl2 : b9.pcs.length + 2 * 1 = 3 * (rg.length - 1) := hpl
  have hvl : vs9.length = b9.pcs.length := paired_len hP9
  have hend : rg.getD (rg.length - 1) 0 = endK b9 := by
    rw [← hfl]
    have hne : b9.kds ≠ [] := hJ9.inv.ch.1.kne
    have hp := List.length_pos_iff.mpr hne
    show ((rg.getD 0 0) :: b9.kds).getD (b9.kds.length + 1 - 1) 0 = b9.kds.getLastD 0
    rw [show b9.kds.length + 1 - 1 = (b9.kds.length - 1) + 1 by exact linn [_, _, _] [] (.v 1) (.a (.v 2) (.c 1)) (.e (-1) (.a (.v 1) (.c 1)) (.a (.v 0) (.c 1)) (.e 1 (.a (.v 2) (.c 1)) (.v 0) .n)) (by kernel_rfl) (Nat.sub_add_cancel (Nat.not_lt.mp (fun u9 => lin [_] [] (.l 1 (.a (.a (.v 0) (.c 1)) (.c 1)) (.c 1) (.l 1 (.a (.c 0) (.c 1)) (.v 0) .n)) (by kernel_rfl) u9 hp))) (Nat.sub_add_cancel (Nat.not_lt.mp (fun u9 => lin [_] [] (.l 1 (.a (.v 0) (.c 1)) (.c 1) (.l 1 (.a (.c 0) (.c 1)) (.v 0) .n)) (by kernel_rfl) u9 hp))), List.getD_cons_succ, List.getLastD_eq_getLast?, List.getLast?_eq_getElem?, List.getD_eq_getElem?_getD]
  repeat' ((fail_if_success (with_reducible show wpAny _ _ (exec (PySem.Stmt.For _ _ _ _ _) _) _ _ _)); (fail_if_success (with_reducible show wpAny _ _ (exec (PySem.Stmt.While _ _ _ _) _) _ _ _)); (fail_if_success (with_reducible show wpAny _ _ (pyIter _) _ _ _)); (fail_if_success (with_reducible show wpAny _ _ (call _ _ _) _ _ _)); (fail_if_success (with_reducible show wpAny _ _ (compareOp _ _ _) _ _ _)); (first | (k_unfold; (try dsimp only)) | (k_end; kc_close) | walk1 | (dsimp only; walk1) | (leave1; walk_say "STEP leave1"; (try dsimp only))))
  rename Fr _ _ _ _ => F₈
  rename News _ _ _ _ => N₈
  refine' eq_lens (l := vs9) (l2 := []) (n := w2) (k := 0) N₈ ?em1AB ?em2AB ?ezAB ?euAB ?_
  case em1AB => exact .tail _ (.tail _ (.head _))
  case em2AB => exact .head _
  case ezAB => rw [hvl]; simp only [List.length_nil]; lia
  case euAB => ktr_units
  replace N₈ := news_sub (r := [(SA, oLst vs9 w2), (DD, oLst dv9 w3), (RG, oLst (List.map (kindRef T0 T1 T2) rg) m9), (T0, oTup #[Value.int r x9, Value.int g y9, Value.int b z9] m0), (T1, oTup #[Value.int b z9, Value.int r x9, Value.int g y9] m1), (T2, oTup #[Value.int g y9, Value.int b z9, Value.int r x9] m2)]) N₈ (by walk_at "MINE subl")
  repeat' ((fail_if_success (with_reducible show wpAny _ _ (exec (PySem.Stmt.For _ _ _ _ _) _) _ _ _)); (fail_if_success (with_reducible show wpAny _ _ (exec (PySem.Stmt.While _ _ _ _) _) _ _ _)); (fail_if_success (with_reducible show wpAny _ _ (pyIter _) _ _ _)); (fail_if_success (with_reducible show wpAny _ _ (call _ _ _) _ _ _)); (fail_if_success (with_reducible show wpAny _ _ (compareOp _ _ _) _ _ _)); (first | (k_unfold; (try dsimp only)) | (k_end; kc_close) | walk1 | (dsimp only; walk1) | (leave1; walk_say "STEP leave1"; (try dsimp only))))
  rw [hzz]
  have HL9 := lmp_in N₈ HL (by walk_at "MINE subl")
  refine' (c_walk _ _ _ _ _ _ SA T0 T1 T2 vs9 b9.pcs w2 r g b (rg.getD 0 0) (rg.getD (rg.length - 1) 0) _ ?hmAB hP9 HL9 HR hk0 hk1 hro.ends (by exact Nat.not_lt.mp (fun u9 => lin [_, _, _] [] (.l 1 (.a (.c 50) (.c 1)) (.v 1) (.l 3 (.v 0) (.c 10) (.e 1 (.a (.v 1) (.c (2 * 1))) (.m 3 (.v 2)) (.e 3 (.a (.v 2) (.c 1)) (.v 0) .n)))) (by kernel_rfl) u9 hrl2 hpl2 (Nat.sub_add_cancel (Nat.not_lt.mp (fun u9 => lin [_] [] (.l 1 (.a (.v 0) (.c 1)) (.c 1) (.l 1 (.c 7) (.v 0) .n)) (by kernel_rfl) u9 hrl1)))))) _ _ _ _ _ _ _ _ _ _ _ _ _ _ _ _ _ ?k1AB ?k2AB ?k3AB ?k4AB ?k5AB ?kKAB ?kdAB ?kuAB ?_
  case k1AB => k_asm
  case k2AB => k_asm
  case k3AB => k_asm
  case k4AB => exact N₈
  case k5AB => k_asm
  case kKAB => first | exact rfl | assumption
  case kdAB => ktr_room
  case kuAB => ktr_units
  case hmAB => exact .head _
  intro r8 own8 h8' tk8' F₉ N₉ p8
  refine xx10 p8 fun DW WL DP wv8 dv8 tz kw8 kd8 nw8 own9 h9q => ?_
  refine aa4 h9q fun qe0 qe1 hwv hdv8 => ?_
  clear h9q
  subst qe0
  subst qe1
  clear p8
  rw [hone.2.1] at N₉
  rw [hend, hone.1, ← hone.2.2.1, hfl] at hwv
  rw [hone.1] at hdv8
  simp only [List.cons_append] at N₉
  repeat' ((fail_if_success (with_reducible show wpAny _ _ (exec (PySem.Stmt.For _ _ _ _ _) _) _ _ _)); (fail_if_success (with_reducible show wpAny _ _ (exec (PySem.Stmt.While _ _ _ _) _) _ _ _)); (fail_if_success (with_reducible show wpAny _ _ (pyIter _) _ _ _)); (fail_if_success (with_reducible show wpAny _ _ (call _ _ _) _ _ _)); (fail_if_success (with_reducible show wpAny _ _ (compareOp _ _ _) _ _ _)); (first | (k_unfold; (try dsimp only)) | (k_end; kc_close) | walk1 | (dsimp only; walk1) | (leave1; walk_say "STEP leave1"; (try dsimp only))))
  rename Fr _ _ _ _ => F₈
  rename News _ _ _ _ => N₈
  have up8 : ∀ q ∈ own9 ++ [(SA, oLst vs9 w2), (DD, oLst dv9 w3), (RG, oLst (List.map (kindRef T0 T1 T2) rg) m9), (T0, oTup #[Value.int r x9, Value.int g y9, Value.int b z9] m0), (T1, oTup #[Value.int b z9, Value.int r x9, Value.int g y9] m1), (T2, oTup #[Value.int g y9, Value.int b z9, Value.int r x9] m2)], q ∈ (DW, oTup #[Value.ref WL, Value.ref DP, Value.int 0 tz] nw8) :: (WL, oLst wv8 kw8) :: (DP, oLst dv8 kd8) :: (own9 ++ [(SA, oLst vs9 w2), (DD, oLst dv9 w3), (RG, oLst (List.map (kindRef T0 T1 T2) rg) m9), (T0, oTup #[Value.int r x9, Value.int g y9, Value.int b z9] m0), (T1, oTup #[Value.int b z9, Value.int r x9, Value.int g y9] m1), (T2, oTup #[Value.int g y9, Value.int b z9, Value.int r x9] m2)]) := fun q hq => .tail _ (.tail _ (.tail _ hq))
  have HL10 := lmp_in N₈ HL fun q hq => up8 q (List.mem_append_right _ (.tail _ (.tail _ (.tail _ hq))))
  refine' eq_lamps (n := kw8) (k := m9) N₈ ?em1AC ?em2AC ?epAC (paired_kinds HL10 rg hro.tri) ?euAC ?_
  case em1AC => exact .tail _ (.head _)
  case em2AC => exact up8 _ (List.mem_append_right _ (.tail _ (.tail _ (.head _))))
  case epAC =>
    refine paired_mono (fun v k hv => ?_) hwv
    obtain ⟨a, t0, t1, t2, n, e, m, _⟩ := hv
    exact ⟨a, t0, t1, t2, n, e, up8 _ m⟩
  case euAC => ktr_units
  repeat' ((fail_if_success (with_reducible show wpAny _ _ (exec (PySem.Stmt.For _ _ _ _ _) _) _ _ _)); (fail_if_success (with_reducible show wpAny _ _ (exec (PySem.Stmt.While _ _ _ _) _) _ _ _)); (fail_if_success (with_reducible show wpAny _ _ (pyIter _) _ _ _)); (fail_if_success (with_reducible show wpAny _ _ (call _ _ _) _ _ _)); (fail_if_success (with_reducible show wpAny _ _ (compareOp _ _ _) _ _ _)); (first | (k_unfold; (try dsimp only)) | (k_end; kc_close) | walk1 | (dsimp only; walk1) | (leave1; walk_say "STEP leave1"; (try dsimp only))))
  rename News _ _ _ _ => N₈
  refine' eq_intL (n := kd8) (k := w3) N₈ ?fm1 ?fm2 hdv8 hd9 ?fu ?_
  case fm1 => exact .tail _ (.tail _ (.head _))
  case fm2 => exact up8 _ (List.mem_append_right _ (.tail _ (.head _)))
  case fu => ktr_units
  repeat' ((fail_if_success (with_reducible show wpAny _ _ (exec (PySem.Stmt.For _ _ _ _ _) _) _ _ _)); (fail_if_success (with_reducible show wpAny _ _ (exec (PySem.Stmt.While _ _ _ _) _) _ _ _)); (fail_if_success (with_reducible show wpAny _ _ (pyIter _) _ _ _)); (fail_if_success (with_reducible show wpAny _ _ (call _ _ _) _ _ _)); (first | (k_unfold; (try dsimp only)) | (k_end; kc_close) | walk1 | (dsimp only; walk1) | (leave1; walk_say "STEP leave1"; (try dsimp only))))
  )
end
end
end
end Mine
set_option maxRecDepth 100000 in
set_option maxHeartbeats 8000000 in
theorem PySem.Challenge.cw_wu0035_01_holds : PySem.Challenge.rw_wu0035_01.Holds := by
  exact Mine.lawx
