import PyProof.Rows.All
import Wide.All
import OpenK.AllK
import Wide.FinOn
import Lean
import PySem.Challenge.RW_rs0134_01
section
open PySem PySem.W PyProof.Rows
set_option Elab.async false
set_option maxRecDepth 100000
set_option maxHeartbeats 8000000
set_option compiler.extract_closed false
namespace Mine
noncomputable abbrev PR : Program := PySem.Challenge.rw_rs0134_01.row.prog
/-- the text without its four `__name__` lines -/
noncomputable def hdView : Program := view PR [0, 2, 3, 4, 6, 8, 10, 11, 12, 13, 14, 15, 16, 17, 18]
/-- `topFrom` over the library's quick twins of the run and of the table -/
noncomputable def hdFast : { f : Program → World → Nat → Shared → Option Shared // ∀ p w N s, topFrom treeTable p w N s = f p w N s } :=
  ⟨_, fun p w N s => by
    unfold topFrom
    rw [PySem.W.Fast.te14082659384304107361, PySem.W.Fast.te14364793385576792824]⟩
theorem hdOpens : opening PR = plainProg PR.main.scope.names := by kernel_rfl
theorem hdFences (s : Shared) : fenceModules? PR s = some s := by kernel_rfl
noncomputable def hdEnds (q : Program) (loose : List Str) (Xt : Shared → Bool) {α : Type} (Yf : Shared → α) (w : World) (os : OsState) :=
  (hdFast.1 PR w 2544 ⟨boot_heap w.params, Array.mk [], boot_drawn, boot_toks, os⟩).map (fun s => (PySem.W.Fast.tw4187177175401517315 q loose (importedModules PR.main.body) Xt true s, Yf s))
/-- what is left of the head: the run under each of the world's two answers, and the walk -/
theorem hdThree {A B C D W : Prop} (f : W → A → B → C → D) (hw : W) (hc : A ∧ B ∧ C) : D := f hw hc.1 hc.2.1 hc.2.2
noncomputable def HdOne {A B C D : Prop} (_ : A ∧ B ∧ C → D) : Prop := A
noncomputable def HdTwo {A B C D : Prop} (_ : A ∧ B ∧ C → D) : Prop := B
/-- the top's run, each of the world's two answers apart -/
theorem hdLeft {q : Program} {loose : List Str} {Xt : Shared → Bool} {α : Type} {Yf : Shared → α} {Ya : World → α}
    (no : ∀ (w : World) (os : OsState), hdEnds q loose Xt Yf (w.withFollow "special-get-raises" false) os = some (openGood q loose, Ya (w.withFollow "special-get-raises" false)))
    (yes : ∀ (w : World) (os : OsState), hdEnds q loose Xt Yf (w.withFollow "special-get-raises" true) os = some (openGood q loose, Ya (w.withFollow "special-get-raises" true))) :
    LeftO PR q loose Xt Yf Ya 2544 := fun w => by
  obtain ⟨⟨h, g, d, t, os⟩, hs, hv⟩ := Option.map_eq_some_iff.mp (boot_open (N := 2544) hdOpens (by decide) hdFences w)
  obtain ⟨rfl, rfl, rfl, rfl⟩ : h = boot_heap w.params ∧ g = Array.mk [] ∧ d = boot_drawn ∧ t = boot_toks := by simpa using hv
  have k : ∀ b, hdEnds q loose Xt Yf (w.withFollow "special-get-raises" b) os = some (openGood q loose, Ya (w.withFollow "special-get-raises" b)) := fun b => by
    cases b
    · exact no w os
    · exact yes w os
  replace k := k (w.params.followText "special-get-raises")
  unfold hdEnds at k
  rw [World.withFollow_self, ← hdFast.2, ← PySem.W.Fast.te4187177175401517315] at k
  unfold openEnds
  rw [hs, Option.bind_some]
  exact k
end Mine
local macro_rules | `(tactic| o_head $H) => `(tactic| (
  rename_i said
  apply Mine.hdThree
  focus
    intro x no yes z
    refine holds_open (q := Mine.hdView) (loose := [Str.ofString "Whitespace"]) (N := 2544)
      (Xt := fun s => xlAt Mine.hdView [] s && recOk (RowW.records PySem.Challenge.rw_rs0134_01.row.toRowW) s) (XP := XL Mine.hdView []) (Yf := Hook.obs $H) (Ya := Hook.val $H) (YP := Hook.says $H)
      ?hl (Hook.of $H) (Hook.keeps $H) (fun s e => xl_of s (Bool.and_eq_true_iff.mp e).1) XL.keeps (by rfl) (by rfl) (by rfl) (fun s e => recFacts_of (Bool.and_eq_true_iff.mp e).2)
      (by rfl) said (by decide +kernel) ⟨rfl, rfl, rfl, rfl, rfl, by decide +kernel⟩ ?hx ?hy
    case hl => (refine Mine.hdLeft ?p ?q; exact no; exact yes)
    case hx => exact x
    case hy => exact z
  all_goals clear said))
open_top Mine.hd for PySem.Challenge.rw_rs0134_01
namespace Mine
theorem hdNo : HdOne hd := by
  unfold HdOne
  intro w os
  kernel_rfl
theorem hdYes : HdTwo hd := by
  unfold HdTwo
  intro w os
  kernel_rfl
theorem hdRun {A B C D : Prop} (f : A ∧ B ∧ C → D) (a : A) (b : B) (c : C) : D := f ⟨a, b, c⟩
noncomputable abbrev KF (w : World) : Frag := Mine.hd.heap_39 w.params
noncomputable abbrev Ar (dp un : Nat) (gd : Option (List Code)) (env : Env) (outer : List Env) : Around := { handled := none, depth := dp, frames := some (env :: outer), guards := gd, units := un }
end Mine
end
-- Lin
section
theorem Mine.resetLin : True := by (w_top off; trivial)
set_option maxRecDepth 100000
set_option genInjectivity false
set_option genSizeOf false
set_option genSizeOfSpec false
noncomputable section
namespace Mine
theorem allC {α : Type} {P : α → Prop} {a : α} {l : List α} (ha : P a) (h : ∀ p, p ∈ l → P p) : ∀ p, p ∈ a :: l → P p := fun p hp => (List.mem_cons.mp hp).elim (fun e => e ▸ ha) (h p)
theorem allA {α : Type} {P : α → Prop} {l r : List α} (ha : ∀ p, p ∈ l → P p) (h : ∀ p, p ∈ r → P p) : ∀ p, p ∈ l ++ r → P p := fun p hp => (List.mem_append.mp hp).elim (ha p) (h p)
theorem allS {α : Type} {P : α → Prop} {a : α} (ha : P a) : ∀ p, p ∈ [a] → P p := allC ha fun _ h => absurd h List.not_mem_nil
/-- linear words over Nat and Int, and a check by given multipliers -/
inductive NT | v (i : Nat) | k (n : Nat) | a (x y : NT) | m (n : Nat) (x : NT)
inductive ZT | v (i : Nat) | c (x : NT) | k (n : Int) | a (x y : ZT) | s (x y : ZT) | m (n : Int) (x : ZT)
inductive FT | nl (x y : NT) | nle (x y : NT) | ne (x y : NT) | zl (x y : ZT) | zle (x y : ZT) | ze (x y : ZT) | an (f g : FT) | pr (p : Prop) | nnl (x y : NT) | nnle (x y : NT) | nzl (x y : ZT) | nzle (x y : ZT) | nne (x y : NT) | nze (x y : ZT)
noncomputable def NT.at : List Nat → Nat → Nat
  | [], _ => 0
  | b :: _, 0 => b
  | _ :: l, i + 1 => NT.at l i
noncomputable def ZT.at : List Int → Nat → Int
  | [], _ => 0
  | b :: _, 0 => b
  | _ :: l, i + 1 => ZT.at l i
noncomputable def NT.d (ns : List Nat) : NT → Nat
  | .v i => NT.at ns i
  | .k n => n
  | .a x y => x.d ns + y.d ns
  | .m n x => n * x.d ns
noncomputable def ZT.d (ns : List Nat) (zs : List Int) : ZT → Int
  | .v i => ZT.at zs i
  | .c x => (x.d ns : Int)
  | .k n => n
  | .a x y => x.d ns zs + y.d ns zs
  | .s x y => x.d ns zs - y.d ns zs
  | .m n x => n * x.d ns zs
noncomputable def FT.d (ns : List Nat) (zs : List Int) : FT → Prop
  | .nl x y => x.d ns < y.d ns
  | .nle x y => x.d ns ≤ y.d ns
  | .ne x y => x.d ns = y.d ns
  | .zl x y => x.d ns zs < y.d ns zs
  | .zle x y => x.d ns zs ≤ y.d ns zs
  | .ze x y => x.d ns zs = y.d ns zs
  | .an f g => f.d ns zs ∧ g.d ns zs
  | .pr p => p
  | .nnl x y => ¬ x.d ns < y.d ns
  | .nnle x y => ¬ x.d ns ≤ y.d ns
  | .nzl x y => ¬ x.d ns zs < y.d ns zs
  | .nzle x y => ¬ x.d ns zs ≤ y.d ns zs
  | .nne x y => ¬ x.d ns = y.d ns
  | .nze x y => ¬ x.d ns zs = y.d ns zs
noncomputable def linImp (ns : List Nat) (zs : List Int) (g : Prop) : List FT → Prop
  | [] => g
  | f :: fs => f.d ns zs → linImp ns zs g fs
noncomputable def padd : List Int → List Int → List Int
  | [], q => q
  | p, [] => p
  | a :: p, b :: q => (a + b) :: padd p q
noncomputable def pmul (k : Int) : List Int → List Int
  | [] => []
  | a :: p => (k * a) :: pmul k p
noncomputable def mono : Nat → List Int
  | 0 => [1]
  | i + 1 => 0 :: mono i
noncomputable def dot : List Int → List Int → Int
  | a :: p, b :: e => a * b + dot p e
  | _, _ => 0
theorem dot_add : ∀ (p q e : List Int), dot (padd p q) e = dot p e + dot q e := by
  intro p
  induction p with
  | nil => intro q e; show dot q e = 0 + dot q e; rw [Int.zero_add]
  | cons a p ih =>
    intro q e
    cases q with
    | nil => show dot (a :: p) e = dot (a :: p) e + 0; rw [Int.add_zero]
    | cons b q =>
      cases e with
      | nil => rfl
      | cons c e =>
        show (a + b) * c + dot (padd p q) e = a * c + dot p e + (b * c + dot q e)
        rw [ih, Int.add_mul, Int.add_assoc, Int.add_assoc, Int.add_left_comm (b * c)]
theorem dot_mul (k : Int) : ∀ (p e : List Int), dot (pmul k p) e = k * dot p e := by
  intro p
  induction p with
  | nil => intro e; show (0 : Int) = k * 0; rw [Int.mul_zero]
  | cons a p ih =>
    intro e
    cases e with
    | nil => show (0 : Int) = k * 0; rw [Int.mul_zero]
    | cons c e => show k * a * c + dot (pmul k p) e = k * (a * c + dot p e); rw [ih, Int.mul_add, Int.mul_assoc]
theorem dot_mono : ∀ (i : Nat) (e : List Int), dot (mono i) e = ZT.at e i := by
  intro i
  induction i with
  | zero =>
    intro e
    cases e with
    | nil => rfl
    | cons c e => show 1 * c + dot [] e = c; rw [Int.one_mul]; exact Int.add_zero c
  | succ i ih =>
    intro e
    cases e with
    | nil => rfl
    | cons c e => show 0 * c + dot (mono i) e = ZT.at e i; rw [Int.zero_mul, Int.zero_add, ih]
noncomputable def NT.p : NT → List Int
  | .v i => mono (i + 1)
  | .k n => [(n : Int)]
  | .a x y => padd x.p y.p
  | .m n x => pmul (n : Int) x.p
noncomputable def ZT.p (nn : Nat) : ZT → List Int
  | .v i => mono (nn + i + 1)
  | .c x => x.p
  | .k n => [n]
  | .a x y => padd (x.p nn) (y.p nn)
  | .s x y => padd (x.p nn) (pmul (-1) (y.p nn))
  | .m n x => pmul n (x.p nn)
noncomputable def NT.ok (nn : Nat) : NT → Bool
  | .v i => Nat.blt i nn
  | .k _ => true
  | .a x y => x.ok nn && y.ok nn
  | .m _ x => x.ok nn
noncomputable def ZT.ok (nn : Nat) : ZT → Bool
  | .v _ => true
  | .c x => x.ok nn
  | .k _ => true
  | .a x y => x.ok nn && y.ok nn
  | .s x y => x.ok nn && y.ok nn
  | .m _ x => x.ok nn
/-- the rows that are 0 or more where the word holds -/
noncomputable def le (p q : List Int) : List Int := padd q (pmul (-1) p)
noncomputable def lt (p q : List Int) : List Int := padd (le p q) [-1]
noncomputable def guard (b : Bool) (l : List (List Int)) : List (List Int) := match b with
  | true => l
  | false => []
noncomputable def FT.rows (nn : Nat) : FT → List (List Int)
  | .nl x y => guard (x.ok nn && y.ok nn) [lt x.p y.p]
  | .nle x y => guard (x.ok nn && y.ok nn) [le x.p y.p]
  | .ne x y => guard (x.ok nn && y.ok nn) [le x.p y.p, le y.p x.p]
  | .zl x y => guard (x.ok nn && y.ok nn) [lt (x.p nn) (y.p nn)]
  | .zle x y => guard (x.ok nn && y.ok nn) [le (x.p nn) (y.p nn)]
  | .ze x y => guard (x.ok nn && y.ok nn) [le (x.p nn) (y.p nn), le (y.p nn) (x.p nn)]
  | .an f g => f.rows nn ++ g.rows nn
  | .pr _ => []
  | .nnl x y => guard (x.ok nn && y.ok nn) [le y.p x.p]
  | .nnle x y => guard (x.ok nn && y.ok nn) [lt y.p x.p]
  | .nzl x y => guard (x.ok nn && y.ok nn) [le (y.p nn) (x.p nn)]
  | .nzle x y => guard (x.ok nn && y.ok nn) [lt (y.p nn) (x.p nn)]
  | .nne _ _ => []
  | .nze _ _ => []
noncomputable def envL (ns : List Nat) (zs : List Int) : List Int := 1 :: (ns.map (fun (n : Nat) => (n : Int)) ++ zs)
theorem at_map : ∀ (ns : List Nat) (zs : List Int) (i : Nat), i < ns.length → ZT.at (ns.map (fun (n : Nat) => (n : Int)) ++ zs) i = (NT.at ns i : Int) := by
  intro ns
  induction ns with
  | nil => intro zs i h; exact absurd h (Nat.not_lt_zero i)
  | cons a ns ih =>
    intro zs i h
    cases i with
    | zero => rfl
    | succ i => exact ih zs i (Nat.lt_of_succ_lt_succ h)
theorem at_app : ∀ (ns : List Nat) (zs : List Int) (i : Nat), ZT.at (ns.map (fun (n : Nat) => (n : Int)) ++ zs) (ns.length + i) = ZT.at zs i := by
  intro ns
  induction ns with
  | nil => intro zs i; show ZT.at zs (0 + i) = _; rw [Nat.zero_add]
  | cons a ns ih => intro zs i; show ZT.at (a :: (ns.map (fun (n : Nat) => (n : Int)) ++ zs)) (ns.length + 1 + i) = _; rw [Nat.add_right_comm]; exact ih zs i
section
variable (ns : List Nat) (zs : List Int)
theorem dot_one (n : Int) : dot [n] (envL ns zs) = n := by show n * 1 + dot [] _ = n; rw [Int.mul_one]; exact Int.add_zero n
theorem NT.p_ok : ∀ x : NT, x.ok ns.length = true → dot x.p (envL ns zs) = (x.d ns : Int) := by
  intro x
  induction x with
  | v i => intro h; show dot (mono (i + 1)) _ = _; rw [dot_mono]; exact at_map ns zs i (Nat.le_of_ble_eq_true h)
  | k n => intro _; exact dot_one ns zs n
  | a x y ihx ihy =>
    intro h
    have h := (Bool.and_eq_true _ _).mp h
    show dot (padd x.p y.p) _ = ((x.d ns + y.d ns : Nat) : Int)
    rw [dot_add, ihx h.1, ihy h.2, Int.natCast_add]
  | m n x ih => intro h; show dot (pmul n x.p) _ = ((n * x.d ns : Nat) : Int); rw [dot_mul, ih h, Int.natCast_mul]
theorem ZT.p_ok : ∀ x : ZT, x.ok ns.length = true → dot (x.p ns.length) (envL ns zs) = x.d ns zs := by
  intro x
  induction x with
  | v i => intro _; show dot (mono (ns.length + i + 1)) _ = _; rw [dot_mono]; exact at_app ns zs i
  | c x => intro h; exact NT.p_ok ns zs x h
  | k n => intro _; exact dot_one ns zs n
  | a x y ihx ihy =>
    intro h
    have h := (Bool.and_eq_true _ _).mp h
    show dot (padd _ _) _ = x.d ns zs + y.d ns zs
    rw [dot_add, ihx h.1, ihy h.2]
  | s x y ihx ihy =>
    intro h
    have h := (Bool.and_eq_true _ _).mp h
    show dot (padd _ (pmul (-1) _)) _ = x.d ns zs - y.d ns zs
    rw [dot_add, dot_mul, ihx h.1, ihy h.2, Int.neg_mul, Int.one_mul]; rfl
  | m n x ih => intro h; show dot (pmul n _) _ = n * x.d ns zs; rw [dot_mul, ih h]
theorem dot_le (p q : List Int) (e : List Int) : dot (le p q) e = dot q e - dot p e := by unfold le; rw [dot_add, dot_mul, Int.neg_mul, Int.one_mul]; rfl
theorem dot_lt (p q : List Int) : dot (lt p q) (envL ns zs) = dot q (envL ns zs) - dot p (envL ns zs) - 1 := by unfold lt; rw [dot_add, dot_le, dot_one]; rfl
noncomputable def NN (r : List Int) : Prop := 0 ≤ dot r (envL ns zs)
theorem row_n {x y : NT} {l : List (List Int)} (h : x.ok ns.length = true → y.ok ns.length = true → ∀ r ∈ l, NN ns zs r) : ∀ r ∈ guard (x.ok ns.length && y.ok ns.length) l, NN ns zs r := by
  cases hx : x.ok ns.length
  · exact fun _ h => absurd h List.not_mem_nil
  · cases hy : y.ok ns.length
    · exact fun _ h => absurd h List.not_mem_nil
    · exact h hx hy
theorem row_z {x y : ZT} {l : List (List Int)} (h : x.ok ns.length = true → y.ok ns.length = true → ∀ r ∈ l, NN ns zs r) : ∀ r ∈ guard (x.ok ns.length && y.ok ns.length) l, NN ns zs r := by
  cases hx : x.ok ns.length
  · exact fun _ h => absurd h List.not_mem_nil
  · cases hy : y.ok ns.length
    · exact fun _ h => absurd h List.not_mem_nil
    · exact h hx hy
theorem le_n {x y : NT} (h : x.d ns ≤ y.d ns) (hx : x.ok ns.length = true) (hy : y.ok ns.length = true) : NN ns zs (le x.p y.p) := by
  unfold NN
  rw [dot_le, NT.p_ok ns zs x hx, NT.p_ok ns zs y hy]
  exact Int.sub_nonneg_of_le (Int.ofNat_le.mpr h)
theorem le_z {x y : ZT} (h : x.d ns zs ≤ y.d ns zs) (hx : x.ok ns.length = true) (hy : y.ok ns.length = true) : NN ns zs (le (x.p ns.length) (y.p ns.length)) := by
  unfold NN
  rw [dot_le, ZT.p_ok ns zs x hx, ZT.p_ok ns zs y hy]
  exact Int.sub_nonneg_of_le h
theorem lt_n {x y : NT} (h : x.d ns < y.d ns) (hx : x.ok ns.length = true) (hy : y.ok ns.length = true) : NN ns zs (lt x.p y.p) := by
  unfold NN
  rw [dot_lt, NT.p_ok ns zs x hx, NT.p_ok ns zs y hy, Int.sub_sub]
  exact Int.sub_nonneg_of_le (Int.ofNat_lt.mpr h)
theorem lt_z {x y : ZT} (h : x.d ns zs < y.d ns zs) (hx : x.ok ns.length = true) (hy : y.ok ns.length = true) : NN ns zs (lt (x.p ns.length) (y.p ns.length)) := by
  unfold NN
  rw [dot_lt, ZT.p_ok ns zs x hx, ZT.p_ok ns zs y hy, Int.sub_sub]
  exact Int.sub_nonneg_of_le h
theorem FT.rows_ok : ∀ f : FT, f.d ns zs → ∀ r ∈ f.rows ns.length, NN ns zs r := by
  intro f
  induction f with
  | nl x y => exact fun h => row_n ns zs fun hx hy => allS (lt_n ns zs h hx hy)
  | nle x y => exact fun h => row_n ns zs fun hx hy => allS (le_n ns zs h hx hy)
  | ne x y => exact fun h => row_n ns zs fun hx hy => allC (le_n ns zs (Nat.le_of_eq h) hx hy) (allS (le_n ns zs (Nat.le_of_eq (Eq.symm h)) hy hx))
  | zl x y => exact fun h => row_z ns zs fun hx hy => allS (lt_z ns zs h hx hy)
  | zle x y => exact fun h => row_z ns zs fun hx hy => allS (le_z ns zs h hx hy)
  | ze x y => exact fun h => row_z ns zs fun hx hy => allC (le_z ns zs (Int.le_of_eq h) hx hy) (allS (le_z ns zs (Int.le_of_eq (Eq.symm h)) hy hx))
  | an f g ihf ihg => exact fun h => allA (ihf h.1) (ihg h.2)
  | pr p => exact fun _ _ h => absurd h List.not_mem_nil
  | nnl x y => exact fun h => row_n ns zs fun hx hy => allS (le_n ns zs (Nat.le_of_not_lt h) hy hx)
  | nnle x y => exact fun h => row_n ns zs fun hx hy => allS (lt_n ns zs (Nat.lt_of_not_le h) hy hx)
  | nzl x y => exact fun h => row_z ns zs fun hx hy => allS (le_z ns zs (Int.not_lt.mp h) hy hx)
  | nzle x y => exact fun h => row_z ns zs fun hx hy => allS (lt_z ns zs (Int.not_le.mp h) hy hx)
  | nne x y => exact fun _ _ h => absurd h List.not_mem_nil
  | nze x y => exact fun _ _ h => absurd h List.not_mem_nil
noncomputable def FT.neg : FT → FT
  | .nl x y => .nnl x y
  | .nle x y => .nnle x y
  | .zl x y => .nzl x y
  | .zle x y => .nzle x y
  | .ne x y => .nne x y
  | .ze x y => .nze x y
  | .nne x y => .ne x y
  | .nze x y => .ze x y
  | _ => .pr True
theorem FT.neg_ok (f : FT) (h : ¬ f.d ns zs) : f.neg.d ns zs := by
  cases f with
  | nl | nle | zl | zle | ne | ze => exact h
  | nne | nze => exact Classical.byContradiction h
  | _ => exact True.intro
noncomputable def combo : List Nat → List (List Int) → List Int
  | c :: cs, r :: rs => padd (pmul (c : Int) r) (combo cs rs)
  | _, _ => []
theorem combo_ok : ∀ (cs : List Nat) (rs : List (List Int)), (∀ r ∈ rs, NN ns zs r) → 0 ≤ dot (combo cs rs) (envL ns zs) := by
  intro cs
  induction cs with
  | nil => intro rs _; exact Int.le_refl 0
  | cons c cs ih =>
    intro rs h
    cases rs with
    | nil => exact Int.le_refl 0
    | cons r rs =>
      show 0 ≤ dot (padd (pmul c r) (combo cs rs)) _
      rw [dot_add, dot_mul]
      exact Int.add_nonneg (Int.mul_nonneg (Int.natCast_nonneg c) (h r (.head _))) (ih rs fun q hq => h q (.tail _ hq))
noncomputable def zeros : List Int → Bool
  | [] => true
  | .ofNat 0 :: l => zeros l
  | _ => false
theorem zeros_ok : ∀ (l e : List Int), zeros l = true → dot l e = 0 := by
  intro l
  induction l with
  | nil => intro e _; rfl
  | cons a l ih =>
    intro e h
    cases e with
    | nil => rfl
    | cons c e =>
      cases a with
      | ofNat n =>
        cases n with
        | zero => show 0 * c + dot l e = 0; rw [Int.zero_mul, Int.zero_add]; exact ih e h
        | succ n => exact nomatch h
      | negSucc n => exact nomatch h
noncomputable def neg : List Int → Bool
  | .negSucc _ :: l => zeros l
  | _ => false
theorem neg_no {l : List Int} (h : neg l = true) (h' : 0 ≤ dot l (envL ns zs)) : False := by
  cases l with
  | nil => exact nomatch h
  | cons a l =>
    cases a with
    | ofNat n => exact nomatch h
    | negSucc n =>
      have e : dot (Int.negSucc n :: l) (envL ns zs) = Int.negSucc n * 1 + dot l (ns.map (fun (n : Nat) => (n : Int)) ++ zs) := rfl
      rw [e, zeros_ok l _ h, Int.mul_one, Int.add_zero] at h'
      exact absurd h' (Int.not_le.mpr (Int.negSucc_lt_zero n))
/-- the nonnegative letters -/
noncomputable def natRows : Nat → List (List Int)
  | 0 => []
  | i + 1 => mono (i + 1) :: natRows i
theorem natRows_ok : ∀ n, n ≤ ns.length → ∀ r ∈ natRows n, NN ns zs r := by
  intro n
  induction n with
  | zero => exact fun _ _ h => absurd h List.not_mem_nil
  | succ n ih =>
    intro hn r hr
    rcases List.mem_cons.mp hr with rfl | hr
    · unfold NN; rw [dot_mono]
      show 0 ≤ ZT.at (ns.map (fun (n : Nat) => (n : Int)) ++ zs) n
      rw [at_map ns zs n hn]; exact Int.natCast_nonneg _
    · exact ih (Nat.le_of_succ_le hn) r hr
noncomputable def allRows (nn : Nat) : List FT → List (List Int)
  | [] => natRows nn
  | f :: fs => f.rows nn ++ allRows nn fs
theorem lin0 (g : Prop) : ∀ (fs : List FT) (rs : List (List Int)), (∀ r ∈ rs, NN ns zs r) → ((∀ r ∈ rs ++ allRows ns.length fs, NN ns zs r) → g) → linImp ns zs g fs := by
  intro fs
  induction fs with
  | nil => exact fun rs h k => k fun r hr => (List.mem_append.mp hr).elim (h r) (natRows_ok ns zs _ (Nat.le_refl _) r)
  | cons f fs ih =>
    intro rs h k hf
    refine ih (rs ++ f.rows ns.length) (fun r hr => (List.mem_append.mp hr).elim (h r) (FT.rows_ok ns zs f hf r)) fun h' => k fun r hr => h' r ?_
    rw [List.append_assoc]; exact hr
/-- False from the words by the multipliers -/
theorem linF (fs : List FT) (cs : List Nat) (h : neg (combo cs (allRows ns.length fs)) = true) : linImp ns zs False fs :=
  lin0 ns zs False fs [] (fun _ h => absurd h List.not_mem_nil) fun hr => neg_no ns zs h (combo_ok ns zs cs _ hr)
/-- a word from the words: its no is refuted -/
theorem linG (fs : List FT) (g : FT) (cs : List Nat) (h : neg (combo cs (g.neg.rows ns.length ++ allRows ns.length fs)) = true) : linImp ns zs (g.d ns zs) fs :=
  lin0 ns zs _ fs [] (fun _ h => absurd h List.not_mem_nil) fun hr => Classical.byContradiction fun hg => neg_no ns zs h (combo_ok ns zs cs _ (allA (FT.rows_ok ns zs _ (FT.neg_ok ns zs g hg)) hr))
/-- equality, both ways -/
theorem linE (fs : List FT) (x y : NT) (c1 c2 : List Nat) (h1 : neg (combo c1 ((FT.nnle x y).rows ns.length ++ allRows ns.length fs)) = true) (h2 : neg (combo c2 ((FT.nnle y x).rows ns.length ++ allRows ns.length fs)) = true) : linImp ns zs (x.d ns = y.d ns) fs :=
  lin0 ns zs _ fs [] (fun _ h => absurd h List.not_mem_nil) fun hr => Nat.le_antisymm
    (Classical.byContradiction fun hg => neg_no ns zs h1 (combo_ok ns zs c1 _ (allA (FT.rows_ok ns zs (.nnle x y) hg) hr)))
    (Classical.byContradiction fun hg => neg_no ns zs h2 (combo_ok ns zs c2 _ (allA (FT.rows_ok ns zs (.nnle y x) hg) hr)))
theorem linZ (fs : List FT) (x y : ZT) (c1 c2 : List Nat) (h1 : neg (combo c1 ((FT.nzle x y).rows ns.length ++ allRows ns.length fs)) = true) (h2 : neg (combo c2 ((FT.nzle y x).rows ns.length ++ allRows ns.length fs)) = true) : linImp ns zs (x.d ns zs = y.d ns zs) fs :=
  lin0 ns zs _ fs [] (fun _ h => absurd h List.not_mem_nil) fun hr => Int.le_antisymm
    (Classical.byContradiction fun hg => neg_no ns zs h1 (combo_ok ns zs c1 _ (allA (FT.rows_ok ns zs (.nzle x y) hg) hr)))
    (Classical.byContradiction fun hg => neg_no ns zs h2 (combo_ok ns zs c2 _ (allA (FT.rows_ok ns zs (.nzle y x) hg) hr)))
end
end Mine
end
end
-- OmB
section
theorem Mine.resetOmB : True := by (w_top off; trivial)
open PySem PySem.W PyProof.Rows
set_option maxRecDepth 100000
namespace Mine
theorem om1 : ∀ {x0 : Nat}, x0 ≠ (145 : Nat) → (145 : Nat) ≠ x0 := by
  intros; first | decide | lia | omega
theorem om2 : ∀ {x0 x1 : Nat}, x1 < x0 → x0 ≠ x1 :=
  fun {x0} {x1} => linG [x1, x0] [] [.nl (.v 0) (.v 1)] (.nne (.v 1) (.v 0)) [1, 0, 1] rfl
theorem om3 : ∀ {x0 : Int}, (1 : Int) ≤ x0 → (1 : Int) + (↑(x0 - (1 : Int)).toNat : Int) = x0 := by
  intros; first | decide | lia | omega
theorem om4 : ∀ {x0 x1 : Nat}, x0 < x1 → x0 ≠ x1 :=
  fun {x0} {x1} => linG [x0, x1] [] [.nl (.v 0) (.v 1)] (.nne (.v 0) (.v 1)) [0, 1, 1] rfl
theorem om5 : ∀ {x0 x1 : Nat}, x1 + (1 : Nat) + (1 : Nat) + (1 : Nat) + (1 : Nat) + (1 : Nat) + (1 : Nat) + (1 : Nat) ≠ x0 → x0 ≠ x1 + (1 : Nat) + (1 : Nat) + (1 : Nat) + (1 : Nat) + (1 : Nat) + (1 : Nat) + (1 : Nat) := by
  intros; first | decide | lia | omega
theorem om6 : ∀ {x0 x1 : Nat}, x1 < x0 → x0 = x0 - (1 : Nat) + (1 : Nat) := by
  intros; first | decide | lia | omega
theorem om7 : ∀ {x0 x1 x2 x3 : Nat}, x1 < x2 → x2 < x3 → x3 < x0 → x0 ≠ x1 :=
  fun {x0} {x1} {x2} {x3} => linG [x1, x2, x3, x0] [] [.nl (.v 0) (.v 1), .nl (.v 1) (.v 2), .nl (.v 2) (.v 3)] (.nne (.v 3) (.v 0)) [1, 0, 1, 1, 1] rfl
theorem om8 : ∀ {x0 x1 : Nat}, x1 + (1 : Nat) + (1 : Nat) + (1 : Nat) + (1 : Nat) + (1 : Nat) ≠ x0 → x0 ≠ x1 + (1 : Nat) + (1 : Nat) + (1 : Nat) + (1 : Nat) + (1 : Nat) := by
  intros; first | decide | lia | omega
theorem om9 : ∀ {x0 x1 : Nat}, x1 + (1 : Nat) + (1 : Nat) + (1 : Nat) + (1 : Nat) + (1 : Nat) + (1 : Nat) ≠ x0 → x0 ≠ x1 + (1 : Nat) + (1 : Nat) + (1 : Nat) + (1 : Nat) + (1 : Nat) + (1 : Nat) := by
  intros; first | decide | lia | omega
theorem om10 : ∀ {x0 x1 x2 : Nat}, x1 + (1 : Nat) + (1 : Nat) + (1 : Nat) + (1 : Nat) + (1 : Nat) + (1 : Nat) + (1 : Nat) < x2 → x2 < x0 → x0 ≠ x1 + (1 : Nat) + (1 : Nat) + (1 : Nat) + (1 : Nat) :=
  fun {x0} {x1} {x2} => linG [x1, x2, x0] [] [.nl (.a (.a (.a (.a (.a (.a (.a (.v 0) (.k 1)) (.k 1)) (.k 1)) (.k 1)) (.k 1)) (.k 1)) (.k 1)) (.v 1), .nl (.v 1) (.v 2)] (.nne (.v 2) (.a (.a (.a (.a (.v 0) (.k 1)) (.k 1)) (.k 1)) (.k 1))) [1, 0, 1, 1] rfl
theorem om11 : ∀ {x0 x1 x2 : Nat}, x0 ≤ x2 → x2 = (5 : Nat) → Min.min x0 x1 ≤ (100000 : Nat) := by
  intros; first | decide | lia | omega
theorem om12 : ∀ {x0 x1 x2 : Nat}, x1 + (1 : Nat) + (1 : Nat) + (1 : Nat) + (1 : Nat) + (1 : Nat) + (1 : Nat) + (1 : Nat) < x2 → x2 < x0 → x0 ≠ x1 + (1 : Nat) + (1 : Nat) + (1 : Nat) + (1 : Nat) + (1 : Nat) :=
  fun {x0} {x1} {x2} => linG [x1, x2, x0] [] [.nl (.a (.a (.a (.a (.a (.a (.a (.v 0) (.k 1)) (.k 1)) (.k 1)) (.k 1)) (.k 1)) (.k 1)) (.k 1)) (.v 1), .nl (.v 1) (.v 2)] (.nne (.v 2) (.a (.a (.a (.a (.a (.v 0) (.k 1)) (.k 1)) (.k 1)) (.k 1)) (.k 1))) [1, 0, 1, 1] rfl
theorem om14 : ∀ {x0 x1 x2 x3 : Nat}, x2 < x1 → x0 < x3 → x3 < x2 → x0 ≠ x1 :=
  fun {x0} {x1} {x2} {x3} => linG [x2, x1, x0, x3] [] [.nl (.v 0) (.v 1), .nl (.v 2) (.v 3), .nl (.v 3) (.v 0)] (.nne (.v 2) (.v 1)) [0, 1, 1, 1, 1] rfl
theorem om15 : ∀ {x0 x1 x2 : Nat}, x1 + (1 : Nat) + (1 : Nat) + (1 : Nat) + (1 : Nat) + (1 : Nat) + (1 : Nat) + (1 : Nat) < x2 → x2 < x0 → x0 ≠ x1 + (1 : Nat) + (1 : Nat) + (1 : Nat) + (1 : Nat) + (1 : Nat) + (1 : Nat) :=
  fun {x0} {x1} {x2} => linG [x1, x2, x0] [] [.nl (.a (.a (.a (.a (.a (.a (.a (.v 0) (.k 1)) (.k 1)) (.k 1)) (.k 1)) (.k 1)) (.k 1)) (.k 1)) (.v 1), .nl (.v 1) (.v 2)] (.nne (.v 2) (.a (.a (.a (.a (.a (.a (.v 0) (.k 1)) (.k 1)) (.k 1)) (.k 1)) (.k 1)) (.k 1))) [1, 0, 1, 1] rfl
theorem om16 : ∀ {x0 : Int} {x1 x2 : Nat}, (1 : Nat) ≤ x1 → x2 = x1 → x0 < (↑x2 : Int) → x0.toNat < x1 := by
  intros; first | decide | lia | omega
theorem om17 : ∀ {x0 x1 : Nat}, x0 = x1 → x1 ≤ (5 : Nat) → (↑x0 : Int) < (2 : Int) ^ (63 : Nat) :=
  fun {x0} {x1} => linG [x0, x1] [] [.ne (.v 0) (.v 1), .nle (.v 1) (.k 5)] (.zl (.c (.v 0)) (.k (2^63))) [1, 1, 0, 1] rfl
theorem om18 : ∀ {x0 : Nat} {x1 : Int}, x0 - x1.toNat + Min.min x1.toNat x0 = x0 := by
  intros; first | decide | lia | omega
theorem om19 : ∀ {x0 x1 x2 : Nat}, x1 < x0 → x2 + (1 : Nat) + (1 : Nat) + (1 : Nat) + (1 : Nat) + (1 : Nat) + (1 : Nat) + (1 : Nat) < x1 → (145 : Nat) < x2 → (145 : Nat) < x0 :=
  fun {x0} {x1} {x2} => linG [x1, x0, x2] [] [.nl (.v 0) (.v 1), .nl (.a (.a (.a (.a (.a (.a (.a (.v 2) (.k 1)) (.k 1)) (.k 1)) (.k 1)) (.k 1)) (.k 1)) (.k 1)) (.v 0), .nl (.k 145) (.v 2)] (.nl (.k 145) (.v 1)) [1, 1, 1, 1] rfl
theorem om20 : ∀ {x0 : Int}, (1 : Int) ≤ x0 ∧ x0 ≤ (3 : Int) → (1 : Int) ≤ x0 :=
  fun {x0} => linG [] [x0] [.an (.zle (.k 1) (.v 0)) (.zle (.v 0) (.k 3))] (.zle (.k 1) (.v 0)) [1, 1] rfl
theorem om21 : ∀ {x0 x1 x2 x3 x4 x5 : Nat}, x1 < x2 → x2 < x3 → x3 < x4 → x4 < x5 → x5 < x0 → x0 ≠ x1 :=
  fun {x0} {x1} {x2} {x3} {x4} {x5} => linG [x1, x2, x3, x4, x5, x0] [] [.nl (.v 0) (.v 1), .nl (.v 1) (.v 2), .nl (.v 2) (.v 3), .nl (.v 3) (.v 4), .nl (.v 4) (.v 5)] (.nne (.v 5) (.v 0)) [1, 0, 1, 1, 1, 1, 1] rfl
theorem om22 : ∀ {x0 : Nat}, x0 < (999 : Nat) → (999 : Nat) - x0 = (999 : Nat) - (x0 + (1 : Nat)) + (1 : Nat) := by
  intros; first | decide | lia | omega
theorem om23 : ∀ {x0 : Int}, x0 ≤ (3 : Int) → (x0 - (1 : Int)).toNat < (3 : Nat) := by
  intros; first | decide | lia | omega
theorem om24 : ∀ {x0 x1 : Nat}, x0 = (5 : Nat) → x1 = (5 : Nat) → x0 ≤ x1 :=
  fun {x0} {x1} => linG [x0, x1] [] [.ne (.v 0) (.k 5), .ne (.v 1) (.k 5)] (.nle (.v 0) (.v 1)) [1, 1, 0, 0, 1] rfl
theorem om25 : ∀ {x0 : Nat} {x1 : Int} {x2 : Nat}, x0 = x2 → x2 ≤ (5 : Nat) → x0 - x1.toNat + Min.min x1.toNat x0 ≤ (16777216 : Nat) := by
  intros; first | decide | lia | omega
theorem om26 : ∀ {x0 x1 x2 x3 x4 : Nat}, x2 = (5 : Nat) → x1 = (1 : Nat) → x0 ≤ x3 - (1 : Nat) → ¬(↑x4 : Int) < (↑x3 : Int) → x4 = (5 : Nat) → x0 + x1 ≤ x2 := by
  intros; first | decide | lia | omega
theorem om27 : ∀ {x0 x1 : Nat}, x0 + (1 : Nat) < x1 + (1 : Nat) → x0 < x1 :=
  fun {x0} {x1} => linG [x0, x1] [] [.nl (.a (.v 0) (.k 1)) (.a (.v 1) (.k 1))] (.nl (.v 0) (.v 1)) [1, 1] rfl
theorem om28 : ∀ {x0 x1 : Nat}, x1 + (1 : Nat) + (1 : Nat) + (1 : Nat) + (1 : Nat) + (1 : Nat) + (1 : Nat) + (1 : Nat) < x0 → x0 ≠ x1 + (1 : Nat) + (1 : Nat) + (1 : Nat) + (1 : Nat) + (1 : Nat) + (1 : Nat) + (1 : Nat) :=
  fun {x0} {x1} => linG [x1, x0] [] [.nl (.a (.a (.a (.a (.a (.a (.a (.v 0) (.k 1)) (.k 1)) (.k 1)) (.k 1)) (.k 1)) (.k 1)) (.k 1)) (.v 1)] (.nne (.v 1) (.a (.a (.a (.a (.a (.a (.a (.v 0) (.k 1)) (.k 1)) (.k 1)) (.k 1)) (.k 1)) (.k 1)) (.k 1))) [1, 0, 1] rfl
theorem om29 : (0 : Nat) + (1 : Nat) + (1 : Nat) ≤ (16777216 : Nat) :=
  linG [] [] [] (.nle (.a (.a (.k 0) (.k 1)) (.k 1)) (.k 16777216)) [1] rfl
theorem om30 : ∀ {x0 : Nat}, ((↑x0 : Int) - Max.max (0 : Int) (Min.min (1 : Int) (↑x0 : Int)) + (1 : Int) - (1 : Int)).toNat = x0 - (1 : Nat) := by
  intros; first | decide | lia | omega
theorem om31 : ∀ {x0 x1 : Nat}, x0 ≤ x1 → x0 ≤ x1 + (1 : Nat) :=
  fun {x0} {x1} => linG [x0, x1] [] [.nle (.v 0) (.v 1)] (.nle (.v 0) (.a (.v 1) (.k 1))) [1, 1] rfl
theorem om32 : ∀ {x0 : Nat}, ((0 : Int) + (↑x0 : Int)).toNat = x0 := by
  intros; first | decide | lia | omega
theorem om33 : ∀ {x0 x1 x2 : Nat}, x1 < x2 → x2 < x0 → x0 ≠ x1 :=
  fun {x0} {x1} {x2} => linG [x1, x2, x0] [] [.nl (.v 0) (.v 1), .nl (.v 1) (.v 2)] (.nne (.v 2) (.v 0)) [1, 0, 1, 1] rfl
theorem om34 : ∀ {x0 : Nat}, x0 + (6 : Nat) < PySem.recursionLimit → x0 + (1 : Nat) < PySem.recursionLimit :=
  fun {x0} => linG [x0, PySem.recursionLimit] [] [.nl (.a (.v 0) (.k 6)) (.v 1)] (.nl (.a (.v 0) (.k 1)) (.v 1)) [1, 1] rfl
theorem om35 : ∀ {x0 : Nat} {x1 : Int}, x0 = (5 : Nat) → x0 - x1.toNat + Min.min x1.toNat x0 = (5 : Nat) := by
  intros; first | decide | lia | omega
theorem om36 : (0 : Nat) ≤ (16777216 : Nat) :=
  linG [] [] [] (.nle (.k 0) (.k 16777216)) [1] rfl
theorem om38 : ∀ {x0 : Nat}, x0 = (9 : Nat) ∨ x0 = (32 : Nat) ∨ (97 : Nat) ≤ x0 ∧ x0 ≤ (101 : Nat) → x0 ≠ (10 : Nat) := by
  intros; first | decide | lia | omega
theorem om39 : ∀ {x0 : Nat}, (0 : Int) ≤ (0 : Int) + (↑x0 : Int) :=
  fun {x0} => linG [x0] [] [] (.zle (.k 0) (.a (.k 0) (.c (.v 0)))) [1, 1] rfl
theorem om40 : ∀ {x0 x1 : Nat}, x0 + (1 : Nat) + (1 : Nat) + (1 : Nat) + (1 : Nat) + (1 : Nat) + (1 : Nat) + (1 : Nat) < x1 → x0 + (1 : Nat) + (1 : Nat) + (1 : Nat) + (1 : Nat) + (1 : Nat) + (1 : Nat) ≠ x1 :=
  fun {x0} {x1} => linG [x0, x1] [] [.nl (.a (.a (.a (.a (.a (.a (.a (.v 0) (.k 1)) (.k 1)) (.k 1)) (.k 1)) (.k 1)) (.k 1)) (.k 1)) (.v 1)] (.nne (.a (.a (.a (.a (.a (.a (.v 0) (.k 1)) (.k 1)) (.k 1)) (.k 1)) (.k 1)) (.k 1)) (.v 1)) [0, 1, 1] rfl
theorem om41 : ∀ {x0 : Int}, x0 ≤ (5 : Int) → (x0 - (1 : Int)).toNat < (5 : Nat) := by
  intros; first | decide | lia | omega
theorem om42 : ∀ {x0 x1 x2 : Nat}, x2 < x0 → x1 < x2 → x0 ≠ x1 :=
  fun {x0} {x1} {x2} => linG [x2, x0, x1] [] [.nl (.v 0) (.v 1), .nl (.v 2) (.v 0)] (.nne (.v 1) (.v 2)) [1, 0, 1, 1] rfl
theorem om43 : ∀ {x0 x1 : Nat}, x0 + (1 : Nat) + (1 : Nat) + (1 : Nat) + (1 : Nat) + (1 : Nat) + (1 : Nat) + (1 : Nat) < x1 → x0 + (1 : Nat) + (1 : Nat) + (1 : Nat) + (1 : Nat) ≠ x1 :=
  fun {x0} {x1} => linG [x0, x1] [] [.nl (.a (.a (.a (.a (.a (.a (.a (.v 0) (.k 1)) (.k 1)) (.k 1)) (.k 1)) (.k 1)) (.k 1)) (.k 1)) (.v 1)] (.nne (.a (.a (.a (.a (.v 0) (.k 1)) (.k 1)) (.k 1)) (.k 1)) (.v 1)) [0, 1, 1] rfl
theorem om44 : ∀ {x0 x1 : Nat}, x1 + (1 : Nat) + (1 : Nat) + (1 : Nat) + (1 : Nat) + (1 : Nat) + (1 : Nat) + (1 : Nat) < x0 → x0 ≠ x1 + (1 : Nat) + (1 : Nat) + (1 : Nat) + (1 : Nat) + (1 : Nat) :=
  fun {x0} {x1} => linG [x1, x0] [] [.nl (.a (.a (.a (.a (.a (.a (.a (.v 0) (.k 1)) (.k 1)) (.k 1)) (.k 1)) (.k 1)) (.k 1)) (.k 1)) (.v 1)] (.nne (.v 1) (.a (.a (.a (.a (.a (.v 0) (.k 1)) (.k 1)) (.k 1)) (.k 1)) (.k 1))) [1, 0, 1] rfl
theorem om45 : ∀ {x0 : Int}, (1 : Int) ≤ x0 ∧ x0 ≤ (3 : Int) → x0 ≤ (5 : Int) :=
  fun {x0} => linG [] [x0] [.an (.zle (.k 1) (.v 0)) (.zle (.v 0) (.k 3))] (.zle (.v 0) (.k 5)) [1, 0, 1] rfl
theorem om46 : ∀ {x0 x1 : Nat}, x0 + (1 : Nat) + (1 : Nat) + (1 : Nat) + (1 : Nat) + (1 : Nat) + (1 : Nat) + (1 : Nat) < x1 → x0 + (1 : Nat) + (1 : Nat) + (1 : Nat) + (1 : Nat) + (1 : Nat) ≠ x1 :=
  fun {x0} {x1} => linG [x0, x1] [] [.nl (.a (.a (.a (.a (.a (.a (.a (.v 0) (.k 1)) (.k 1)) (.k 1)) (.k 1)) (.k 1)) (.k 1)) (.k 1)) (.v 1)] (.nne (.a (.a (.a (.a (.a (.v 0) (.k 1)) (.k 1)) (.k 1)) (.k 1)) (.k 1)) (.v 1)) [0, 1, 1] rfl
theorem om47 : ∀ {x0 x1 : Nat}, x0 + (1 : Nat) + (1 : Nat) + (1 : Nat) + (1 : Nat) + (1 : Nat) + (1 : Nat) + (1 : Nat) < x1 → x0 + (1 : Nat) + (1 : Nat) + (1 : Nat) ≠ x1 :=
  fun {x0} {x1} => linG [x0, x1] [] [.nl (.a (.a (.a (.a (.a (.a (.a (.v 0) (.k 1)) (.k 1)) (.k 1)) (.k 1)) (.k 1)) (.k 1)) (.k 1)) (.v 1)] (.nne (.a (.a (.a (.v 0) (.k 1)) (.k 1)) (.k 1)) (.v 1)) [0, 1, 1] rfl
theorem om48 : ∀ {x0 x1 x2 x3 x4 x5 x6 x7 : Nat}, x1 < x2 → x2 < x3 → x3 < x4 → x4 < x5 → x5 < x6 → x6 < x7 → x7 < x0 → x0 ≠ x1 :=
  fun {x0} {x1} {x2} {x3} {x4} {x5} {x6} {x7} => linG [x1, x2, x3, x4, x5, x6, x7, x0] [] [.nl (.v 0) (.v 1), .nl (.v 1) (.v 2), .nl (.v 2) (.v 3), .nl (.v 3) (.v 4), .nl (.v 4) (.v 5), .nl (.v 5) (.v 6), .nl (.v 6) (.v 7)] (.nne (.v 7) (.v 0)) [1, 0, 1, 1, 1, 1, 1, 1, 1] rfl
theorem om49 : ∀ {x0 x1 : Nat}, x0 < x1 → x1 ≤ (5 : Nat) → x0 < (5 : Nat) :=
  fun {x0} {x1} => linG [x0, x1] [] [.nl (.v 0) (.v 1), .nle (.v 1) (.k 5)] (.nl (.v 0) (.k 5)) [1, 1, 1] rfl
theorem om50 : ∀ {x0 x1 x2 x3 : Nat}, x2 < x0 → x1 < x3 → x3 < x2 → x0 ≠ x1 :=
  fun {x0} {x1} {x2} {x3} => linG [x2, x0, x1, x3] [] [.nl (.v 0) (.v 1), .nl (.v 2) (.v 3), .nl (.v 3) (.v 0)] (.nne (.v 1) (.v 2)) [1, 0, 1, 1, 1] rfl
theorem om51 : ∀ {x0 x1 : Nat}, x0 + (1 : Nat) + (1 : Nat) + (1 : Nat) + (1 : Nat) + (1 : Nat) + (1 : Nat) + (1 : Nat) < x1 → x0 + (1 : Nat) + (1 : Nat) ≠ x1 :=
  fun {x0} {x1} => linG [x0, x1] [] [.nl (.a (.a (.a (.a (.a (.a (.a (.v 0) (.k 1)) (.k 1)) (.k 1)) (.k 1)) (.k 1)) (.k 1)) (.k 1)) (.v 1)] (.nne (.a (.a (.v 0) (.k 1)) (.k 1)) (.v 1)) [0, 1, 1] rfl
theorem om52 : ∀ {x0 x1 : Nat}, x0 + (1 : Nat) + (1 : Nat) + (1 : Nat) + (1 : Nat) + (1 : Nat) + (1 : Nat) + (1 : Nat) < x1 → x0 + (1 : Nat) ≠ x1 :=
  fun {x0} {x1} => linG [x0, x1] [] [.nl (.a (.a (.a (.a (.a (.a (.a (.v 0) (.k 1)) (.k 1)) (.k 1)) (.k 1)) (.k 1)) (.k 1)) (.k 1)) (.v 1)] (.nne (.a (.v 0) (.k 1)) (.v 1)) [0, 1, 1] rfl
theorem om53 : ∀ {x0 x1 x2 x3 x4 x5 x6 : Nat}, x1 < x2 → x2 < x3 → x3 < x4 → x4 < x5 → x5 < x6 → x6 < x0 → x0 ≠ x1 :=
  fun {x0} {x1} {x2} {x3} {x4} {x5} {x6} => linG [x1, x2, x3, x4, x5, x6, x0] [] [.nl (.v 0) (.v 1), .nl (.v 1) (.v 2), .nl (.v 2) (.v 3), .nl (.v 3) (.v 4), .nl (.v 4) (.v 5), .nl (.v 5) (.v 6)] (.nne (.v 6) (.v 0)) [1, 0, 1, 1, 1, 1, 1, 1] rfl
theorem om55 : ∀ {x0 : Nat}, (↑x0 : Int).toNat = x0 := by
  intros; first | decide | lia | omega
theorem om56 : ∀ {x0 : Nat}, x0 + (4 : Nat) < PySem.recursionLimit → x0 + (1 : Nat) + (2 : Nat) < PySem.recursionLimit :=
  fun {x0} => linG [x0, PySem.recursionLimit] [] [.nl (.a (.v 0) (.k 4)) (.v 1)] (.nl (.a (.a (.v 0) (.k 1)) (.k 2)) (.v 1)) [1, 1] rfl
theorem om57 : ∀ {x0 : Nat} {x1 : Int}, x0 = (5 : Nat) → x0 - x1.toNat + Min.min x1.toNat x0 ≤ (16777216 : Nat) := by
  intros; first | decide | lia | omega
theorem om58 : ∀ {x0 x1 : Nat}, x1 = (5 : Nat) → x0 < (5 : Nat) → x0 < x1 :=
  fun {x0} {x1} => linG [x1, x0] [] [.ne (.v 0) (.k 5), .nl (.v 1) (.k 5)] (.nl (.v 1) (.v 0)) [1, 0, 1, 1] rfl
theorem om60 : ∀ {x0 x1 : Nat}, x1 + (1 : Nat) + (1 : Nat) + (1 : Nat) + (1 : Nat) + (1 : Nat) + (1 : Nat) + (1 : Nat) < x0 → x0 ≠ x1 + (1 : Nat) + (1 : Nat) + (1 : Nat) + (1 : Nat) + (1 : Nat) + (1 : Nat) :=
  fun {x0} {x1} => linG [x1, x0] [] [.nl (.a (.a (.a (.a (.a (.a (.a (.v 0) (.k 1)) (.k 1)) (.k 1)) (.k 1)) (.k 1)) (.k 1)) (.k 1)) (.v 1)] (.nne (.v 1) (.a (.a (.a (.a (.a (.a (.v 0) (.k 1)) (.k 1)) (.k 1)) (.k 1)) (.k 1)) (.k 1))) [1, 0, 1] rfl
theorem om61 : ∀ {x0 x1 : Nat}, x0 < x1 - (1 : Nat) → x1 < (100 : Nat) → (↑x0 : Int) < (2 : Int) ^ (63 : Nat) := by
  intros; first | decide | lia | omega
theorem om62 : ∀ {x0 x1 : Nat}, x0 + (1 : Nat) < x1 + (1 : Nat) → x0 - (1 : Nat) < x1 := by
  intros; first | decide | lia | omega
theorem om63 : ∀ {x0 x1 : Nat}, x0 < x1 - (1 : Nat) → x1 < (100 : Nat) → (↑x0 : Int) < (9223372036854775808 : Int) := by
  intros; first | decide | lia | omega
theorem om64 : ∀ {x0 : Nat}, x0 + (1 : Nat) < PySem.recursionLimit → x0 < PySem.recursionLimit :=
  fun {x0} => linG [x0, PySem.recursionLimit] [] [.nl (.a (.v 0) (.k 1)) (.v 1)] (.nl (.v 0) (.v 1)) [1, 1] rfl
theorem om67 : ∀ {x0 x1 : Int}, x0 ≤ x1 → x1 ≤ (5 : Int) → (x0 - (1 : Int)).toNat < (5 : Nat) := by
  intros; first | decide | lia | omega
theorem om68 : ∀ {x0 x1 : Nat}, x0 < x1 - (1 : Nat) → (↑x0 : Int) < (↑x1 : Int) := by
  intros; first | decide | lia | omega
theorem om69 : ∀ {x0 x1 x2 x3 x4 : Nat}, x1 < x2 → x2 < x3 → x3 < x4 → x4 < x0 → x0 ≠ x1 :=
  fun {x0} {x1} {x2} {x3} {x4} => linG [x1, x2, x3, x4, x0] [] [.nl (.v 0) (.v 1), .nl (.v 1) (.v 2), .nl (.v 2) (.v 3), .nl (.v 3) (.v 4)] (.nne (.v 4) (.v 0)) [1, 0, 1, 1, 1, 1] rfl
theorem om70 : ∀ {x0 : Nat}, ((↑x0 : Int) - (0 : Int) - (1 : Int)) / (1 : Int) + (1 : Int) = (↑x0 : Int) := by
  intros; first | decide | lia | omega
theorem om71 : ∀ {x0 : Nat}, x0 + (1 : Nat) + (1 : Nat) ≠ x0 + (1 : Nat) + (1 : Nat) + (1 : Nat) + (1 : Nat) :=
  fun {x0} => linG [x0] [] [] (.nne (.a (.a (.v 0) (.k 1)) (.k 1)) (.a (.a (.a (.a (.v 0) (.k 1)) (.k 1)) (.k 1)) (.k 1))) [0, 1] rfl
theorem om72 : ∀ {x0 : Nat}, x0 ≤ (5 : Nat) → x0 ≤ (100 : Nat) :=
  fun {x0} => linG [x0] [] [.nle (.v 0) (.k 5)] (.nle (.v 0) (.k 100)) [1, 1] rfl
theorem om73 : ∀ {x0 : Nat}, x0 + (1 : Nat) + (1 : Nat) + (1 : Nat) ≠ x0 + (1 : Nat) + (1 : Nat) + (1 : Nat) + (1 : Nat) :=
  fun {x0} => linG [x0] [] [] (.nne (.a (.a (.a (.v 0) (.k 1)) (.k 1)) (.k 1)) (.a (.a (.a (.a (.v 0) (.k 1)) (.k 1)) (.k 1)) (.k 1))) [0, 1] rfl
theorem om77 : ∀ {x0 x1 x2 : Nat}, x1 ≤ (5 : Nat) → x0 + (1 : Nat) ≤ (1 : Nat) + (5 : Nat) * x2 → x2 < (999 : Nat) → x0 + x1 ≤ (16777216 : Nat) :=
  fun {x0} {x1} {x2} => linG [x1, x0, x2] [] [.nle (.v 0) (.k 5), .nle (.a (.v 1) (.k 1)) (.a (.k 1) (.m 5 (.v 2))), .nl (.v 2) (.k 999)] (.nle (.a (.v 1) (.v 0)) (.k 16777216)) [1, 1, 1, 5] rfl
theorem om78 : ∀ {x0 x1 : Nat}, x1 + (1 : Nat) + (1 : Nat) + (1 : Nat) + (1 : Nat) + (1 : Nat) + (1 : Nat) + (1 : Nat) < x0 → x0 ≠ x1 + (1 : Nat) + (1 : Nat) + (1 : Nat) + (1 : Nat) :=
  fun {x0} {x1} => linG [x1, x0] [] [.nl (.a (.a (.a (.a (.a (.a (.a (.v 0) (.k 1)) (.k 1)) (.k 1)) (.k 1)) (.k 1)) (.k 1)) (.k 1)) (.v 1)] (.nne (.v 1) (.a (.a (.a (.a (.v 0) (.k 1)) (.k 1)) (.k 1)) (.k 1))) [1, 0, 1] rfl
theorem om79 : ∀ {x0 : Nat}, x0 + (1 : Nat) ≠ x0 + (1 : Nat) + (1 : Nat) + (1 : Nat) + (1 : Nat) :=
  fun {x0} => linG [x0] [] [] (.nne (.a (.v 0) (.k 1)) (.a (.a (.a (.a (.v 0) (.k 1)) (.k 1)) (.k 1)) (.k 1))) [0, 1] rfl
theorem om80 : ∀ {x0 : Nat}, -(2 : Int) ^ (62 : Nat) ≤ (↑x0 : Int) :=
  fun {x0} => linG [x0] [] [] (.zle (.k (-(2:Int)^62)) (.c (.v 0))) [1, 1] rfl
theorem om81 : ∀ {x0 x1 x2 x3 x4 : Nat} {x5 : Prop}, x1 < x0 → x2 < x1 → x3 + (1 : Nat) < x2 ∧ (145 : Nat) < x2 ∧ x4 < x2 ∧ x5 → x0 ≠ (145 : Nat) :=
  fun {x0} {x1} {x2} {x3} {x4} {x5} => linG [x1, x0, x2, x3, x4] [] [.nl (.v 0) (.v 1), .nl (.v 2) (.v 0), .an (.nl (.a (.v 3) (.k 1)) (.v 2)) (.an (.nl (.k 145) (.v 2)) (.an (.nl (.v 4) (.v 2)) (.pr x5)))] (.nne (.v 1) (.k 145)) [1, 0, 1, 1, 0, 1] rfl
theorem om82 : ∀ {x0 x1 x2 : Nat}, x0 = x1 → x1 ≤ x2 → x2 < (999 : Nat) → x0 ≤ (16777216 : Nat) :=
  fun {x0} {x1} {x2} => linG [x0, x1, x2] [] [.ne (.v 0) (.v 1), .nle (.v 1) (.v 2), .nl (.v 2) (.k 999)] (.nle (.v 0) (.k 16777216)) [1, 1, 0, 1, 1] rfl
theorem om83 : ∀ {x0 x1 x2 x3 x4 : Nat}, x1 + (1 : Nat) + (1 : Nat) + (1 : Nat) + (1 : Nat) + (1 : Nat) + (1 : Nat) + (1 : Nat) < x2 → x2 < x3 → x3 < x4 → x4 < x0 → x0 ≠ x1 + (1 : Nat) + (1 : Nat) + (1 : Nat) + (1 : Nat) + (1 : Nat) + (1 : Nat) :=
  fun {x0} {x1} {x2} {x3} {x4} => linG [x1, x2, x3, x4, x0] [] [.nl (.a (.a (.a (.a (.a (.a (.a (.v 0) (.k 1)) (.k 1)) (.k 1)) (.k 1)) (.k 1)) (.k 1)) (.k 1)) (.v 1), .nl (.v 1) (.v 2), .nl (.v 2) (.v 3), .nl (.v 3) (.v 4)] (.nne (.v 4) (.a (.a (.a (.a (.a (.a (.v 0) (.k 1)) (.k 1)) (.k 1)) (.k 1)) (.k 1)) (.k 1))) [1, 0, 1, 1, 1, 1] rfl
theorem om84 : ∀ {x0 : Int}, (0 : Int) ≤ x0 → (↑x0.toNat : Int) = x0 := by
  intros; first | decide | lia | omega
theorem om85 : ∀ {x0 : Nat}, (0 : Int) < (↑x0 : Int) - (1 : Int) → ((↑x0 : Int) - (1 : Int) - (0 : Int) - (1 : Int)) / (1 : Int) + (1 : Int) = (↑(x0 - (1 : Nat)) : Int) := by
  intros; first | decide | lia | omega
theorem om86 : ∀ {x0 x1 : Nat}, x0 < Min.min x1 (5 : Nat) → x0 < x1 ∧ x0 < (5 : Nat) := by
  intros; first | decide | lia | omega
theorem om87 : ∀ {x0 x1 : Nat}, x0 ≤ x1 → x0 + (1 : Nat) ≤ x1 + (1 : Nat) :=
  fun {x0} {x1} => linG [x0, x1] [] [.nle (.v 0) (.v 1)] (.nle (.a (.v 0) (.k 1)) (.a (.v 1) (.k 1))) [1, 1] rfl
theorem om89 : ∀ {x0 : Nat}, x0 + (1 : Nat) + (1 : Nat) + (1 : Nat) + (1 : Nat) + (1 : Nat) + (1 : Nat) + (1 : Nat) ≠ x0 + (1 : Nat) + (1 : Nat) + (1 : Nat) + (1 : Nat) :=
  fun {x0} => linG [x0] [] [] (.nne (.a (.a (.a (.a (.a (.a (.a (.v 0) (.k 1)) (.k 1)) (.k 1)) (.k 1)) (.k 1)) (.k 1)) (.k 1)) (.a (.a (.a (.a (.v 0) (.k 1)) (.k 1)) (.k 1)) (.k 1))) [1] rfl
theorem om90 : ∀ {x0 : Int}, (0 : Int) < x0 → (x0 - (0 : Int) - (1 : Int)) / (1 : Int) + (1 : Int) = (↑x0.toNat : Int) := by
  intros; first | decide | lia | omega
theorem om91 : ∀ {x0 x1 x2 x3 : Nat}, x2 < x1 → x0 + (1 : Nat) + (1 : Nat) + (1 : Nat) + (1 : Nat) + (1 : Nat) + (1 : Nat) + (1 : Nat) < x3 → x3 < x2 → x0 + (1 : Nat) + (1 : Nat) + (1 : Nat) + (1 : Nat) ≠ x1 :=
  fun {x0} {x1} {x2} {x3} => linG [x2, x1, x0, x3] [] [.nl (.v 0) (.v 1), .nl (.a (.a (.a (.a (.a (.a (.a (.v 2) (.k 1)) (.k 1)) (.k 1)) (.k 1)) (.k 1)) (.k 1)) (.k 1)) (.v 3), .nl (.v 3) (.v 0)] (.nne (.a (.a (.a (.a (.v 2) (.k 1)) (.k 1)) (.k 1)) (.k 1)) (.v 1)) [0, 1, 1, 1, 1] rfl
theorem om92 : ∀ {x0 x1 x2 x3 : Nat}, x2 < x1 → x0 + (1 : Nat) + (1 : Nat) + (1 : Nat) + (1 : Nat) + (1 : Nat) + (1 : Nat) + (1 : Nat) < x3 → x3 < x2 → x0 + (1 : Nat) + (1 : Nat) + (1 : Nat) + (1 : Nat) + (1 : Nat) + (1 : Nat) ≠ x1 :=
  fun {x0} {x1} {x2} {x3} => linG [x2, x1, x0, x3] [] [.nl (.v 0) (.v 1), .nl (.a (.a (.a (.a (.a (.a (.a (.v 2) (.k 1)) (.k 1)) (.k 1)) (.k 1)) (.k 1)) (.k 1)) (.k 1)) (.v 3), .nl (.v 3) (.v 0)] (.nne (.a (.a (.a (.a (.a (.a (.v 2) (.k 1)) (.k 1)) (.k 1)) (.k 1)) (.k 1)) (.k 1)) (.v 1)) [0, 1, 1, 1, 1] rfl
theorem om93 : ∀ {x0 x1 : Nat}, x0 + (1 : Nat) + (1 : Nat) < x1 + (1 : Nat) → x0 < x1 :=
  fun {x0} {x1} => linG [x0, x1] [] [.nl (.a (.a (.v 0) (.k 1)) (.k 1)) (.a (.v 1) (.k 1))] (.nl (.v 0) (.v 1)) [1, 1] rfl
theorem om94 : ∀ {x0 x1 x2 x3 : Nat}, x2 < x1 → x0 + (1 : Nat) + (1 : Nat) + (1 : Nat) + (1 : Nat) + (1 : Nat) + (1 : Nat) + (1 : Nat) < x3 → x3 < x2 → x0 + (1 : Nat) + (1 : Nat) + (1 : Nat) + (1 : Nat) + (1 : Nat) ≠ x1 :=
  fun {x0} {x1} {x2} {x3} => linG [x2, x1, x0, x3] [] [.nl (.v 0) (.v 1), .nl (.a (.a (.a (.a (.a (.a (.a (.v 2) (.k 1)) (.k 1)) (.k 1)) (.k 1)) (.k 1)) (.k 1)) (.k 1)) (.v 3), .nl (.v 3) (.v 0)] (.nne (.a (.a (.a (.a (.a (.v 2) (.k 1)) (.k 1)) (.k 1)) (.k 1)) (.k 1)) (.v 1)) [0, 1, 1, 1, 1] rfl
theorem om95 : ∀ {x0 x1 x2 x3 : Nat}, x2 < x1 → x0 + (1 : Nat) + (1 : Nat) + (1 : Nat) + (1 : Nat) + (1 : Nat) + (1 : Nat) + (1 : Nat) < x3 → x3 < x2 → x0 + (1 : Nat) + (1 : Nat) + (1 : Nat) ≠ x1 :=
  fun {x0} {x1} {x2} {x3} => linG [x2, x1, x0, x3] [] [.nl (.v 0) (.v 1), .nl (.a (.a (.a (.a (.a (.a (.a (.v 2) (.k 1)) (.k 1)) (.k 1)) (.k 1)) (.k 1)) (.k 1)) (.k 1)) (.v 3), .nl (.v 3) (.v 0)] (.nne (.a (.a (.a (.v 2) (.k 1)) (.k 1)) (.k 1)) (.v 1)) [0, 1, 1, 1, 1] rfl
theorem om97 : ∀ {x0 : Int}, (1 : Int) ≤ x0 ∧ x0 ≤ (5 : Int) → (1 : Int) ≤ x0 :=
  fun {x0} => linG [] [x0] [.an (.zle (.k 1) (.v 0)) (.zle (.v 0) (.k 5))] (.zle (.k 1) (.v 0)) [1, 1] rfl
theorem om98 : ∀ {x0 : Nat}, x0 < (5 : Nat) → (0 : Int) + (↑x0 : Int) < (2 : Int) ^ (63 : Nat) :=
  fun {x0} => linG [x0] [] [.nl (.v 0) (.k 5)] (.zl (.a (.k 0) (.c (.v 0))) (.k (2^63))) [1, 1] rfl
theorem om99 : ∀ {x0 x1 x2 x3 : Nat}, x2 < x0 → x1 + (1 : Nat) + (1 : Nat) + (1 : Nat) + (1 : Nat) + (1 : Nat) + (1 : Nat) + (1 : Nat) < x3 → x3 < x2 → x0 ≠ x1 + (1 : Nat) + (1 : Nat) + (1 : Nat) + (1 : Nat) + (1 : Nat) :=
  fun {x0} {x1} {x2} {x3} => linG [x2, x0, x1, x3] [] [.nl (.v 0) (.v 1), .nl (.a (.a (.a (.a (.a (.a (.a (.v 2) (.k 1)) (.k 1)) (.k 1)) (.k 1)) (.k 1)) (.k 1)) (.k 1)) (.v 3), .nl (.v 3) (.v 0)] (.nne (.v 1) (.a (.a (.a (.a (.a (.v 2) (.k 1)) (.k 1)) (.k 1)) (.k 1)) (.k 1))) [1, 0, 1, 1, 1] rfl
theorem om100 : ∀ {x0 x1 x2 x3 : Nat}, x2 < x1 → x0 + (1 : Nat) + (1 : Nat) + (1 : Nat) + (1 : Nat) + (1 : Nat) + (1 : Nat) + (1 : Nat) < x3 → x3 < x2 → x0 + (1 : Nat) + (1 : Nat) ≠ x1 :=
  fun {x0} {x1} {x2} {x3} => linG [x2, x1, x0, x3] [] [.nl (.v 0) (.v 1), .nl (.a (.a (.a (.a (.a (.a (.a (.v 2) (.k 1)) (.k 1)) (.k 1)) (.k 1)) (.k 1)) (.k 1)) (.k 1)) (.v 3), .nl (.v 3) (.v 0)] (.nne (.a (.a (.v 2) (.k 1)) (.k 1)) (.v 1)) [0, 1, 1, 1, 1] rfl
theorem om101 : ∀ {x0 : Nat}, ((↑x0 : Int) - (1 : Int)).toNat = x0 - (1 : Nat) := by
  intros; first | decide | lia | omega
theorem om102 : ∀ {x0 : Nat}, x0 + (1 : Nat) + (1 : Nat) + (1 : Nat) + (1 : Nat) + (1 : Nat) + (1 : Nat) ≠ x0 + (1 : Nat) + (1 : Nat) + (1 : Nat) + (1 : Nat) :=
  fun {x0} => linG [x0] [] [] (.nne (.a (.a (.a (.a (.a (.a (.v 0) (.k 1)) (.k 1)) (.k 1)) (.k 1)) (.k 1)) (.k 1)) (.a (.a (.a (.a (.v 0) (.k 1)) (.k 1)) (.k 1)) (.k 1))) [1] rfl
theorem om103 : ∀ {x0 x1 x2 x3 : Nat}, x2 < x1 → x0 + (1 : Nat) + (1 : Nat) + (1 : Nat) + (1 : Nat) + (1 : Nat) + (1 : Nat) + (1 : Nat) < x3 → x3 < x2 → x0 + (1 : Nat) ≠ x1 :=
  fun {x0} {x1} {x2} {x3} => linG [x2, x1, x0, x3] [] [.nl (.v 0) (.v 1), .nl (.a (.a (.a (.a (.a (.a (.a (.v 2) (.k 1)) (.k 1)) (.k 1)) (.k 1)) (.k 1)) (.k 1)) (.k 1)) (.v 3), .nl (.v 3) (.v 0)] (.nne (.a (.v 2) (.k 1)) (.v 1)) [0, 1, 1, 1, 1] rfl
theorem om104 : ∀ {x0 : Int}, x0 % (2 : Int) = (0 : Int) ∨ x0 % (2 : Int) = (1 : Int) := by
  intros; first | decide | lia | omega
theorem om105 : ∀ {x0 x1 : Int}, (1 : Int) + x1 = x0 → (0 : Int) ≤ x1 → x1 < (3 : Int) → (1 : Int) ≤ x0 ∧ x0 ≤ (3 : Int) := by
  intros; first | decide | lia | omega
theorem om108 : ∀ {x0 : Nat}, ¬Max.max (0 : Int) (Min.min (1 : Int) (↑x0 : Int)) < (↑x0 : Int) → Int.toNat (0 : Int) = x0 - (1 : Nat) := by
  intros; first | decide | lia | omega
theorem om109 : ∀ {x0 : Nat}, ((↑x0 : Int) - (1 : Int) + (1 : Int) - (1 : Int)).toNat = x0 - (1 : Nat) := by
  intros; first | decide | lia | omega
theorem om110 : ∀ {x0 x1 x2 : Nat}, x1 = (1 : Nat) → x0 ≤ x2 → (1 : Nat) ≤ x2 ∧ x2 ≤ (6 : Nat) → x0 + x1 ≤ (16777216 : Nat) :=
  fun {x0} {x1} {x2} => linG [x1, x0, x2] [] [.ne (.v 0) (.k 1), .nle (.v 1) (.v 2), .an (.nle (.k 1) (.v 2)) (.nle (.v 2) (.k 6))] (.nle (.a (.v 1) (.v 0)) (.k 16777216)) [1, 1, 0, 1, 0, 1] rfl
theorem om111 : ∀ {x0 : Int}, (1 : Int) ≤ x0 ∧ x0 ≤ (5 : Int) → x0 ≤ (5 : Int) :=
  fun {x0} => linG [] [x0] [.an (.zle (.k 1) (.v 0)) (.zle (.v 0) (.k 5))] (.zle (.v 0) (.k 5)) [1, 0, 1] rfl
theorem om112 : ∀ {x0 x1 x2 : Nat}, x1 = (1 : Nat) → x0 ≤ x2 → (1 : Nat) ≤ x2 ∧ x2 ≤ (6 : Nat) → x0 + x1 < (100 : Nat) :=
  fun {x0} {x1} {x2} => linG [x1, x0, x2] [] [.ne (.v 0) (.k 1), .nle (.v 1) (.v 2), .an (.nle (.k 1) (.v 2)) (.nle (.v 2) (.k 6))] (.nl (.a (.v 1) (.v 0)) (.k 100)) [1, 1, 0, 1, 0, 1] rfl
theorem om113 : (0 : Nat) + (1 : Nat) ≤ (16777216 : Nat) :=
  linG [] [] [] (.nle (.a (.k 0) (.k 1)) (.k 16777216)) [1] rfl
theorem om115 : (2 : Int) < (2 : Int) ^ (63 : Nat) :=
  linG [] [] [] (.zl (.k 2) (.k (2^63))) [1] rfl
theorem om116 : ∀ {x0 x1 x2 : Nat}, x0 + (x1 + (1 : Nat)) = x2 + (1 : Nat) → x0 + (1 : Nat) + x1 = x2 + (1 : Nat) :=
  fun {x0} {x1} {x2} => linE [x0, x1, x2] [] [.ne (.a (.v 0) (.a (.v 1) (.k 1))) (.a (.v 2) (.k 1))] (.a (.a (.v 0) (.k 1)) (.v 1)) (.a (.v 2) (.k 1)) [1, 1] [1, 0, 1] rfl rfl
theorem om117 : ∀ {x0 : Nat}, x0 + (1 : Nat) ≠ x0 + (1 : Nat) + (1 : Nat) + (1 : Nat) :=
  fun {x0} => linG [x0] [] [] (.nne (.a (.v 0) (.k 1)) (.a (.a (.a (.v 0) (.k 1)) (.k 1)) (.k 1))) [0, 1] rfl
theorem om118 : ∀ {x0 : Int}, (1 : Int) ≤ x0 ∧ x0 ≤ (3 : Int) → x0 ≤ (3 : Int) :=
  fun {x0} => linG [] [x0] [.an (.zle (.k 1) (.v 0)) (.zle (.v 0) (.k 3))] (.zle (.v 0) (.k 3)) [1, 0, 1] rfl
theorem om119 : ∀ {x0 : Nat}, x0 + (1 : Nat) + (1 : Nat) + (1 : Nat) + (1 : Nat) + (1 : Nat) ≠ x0 + (1 : Nat) + (1 : Nat) + (1 : Nat) + (1 : Nat) :=
  fun {x0} => linG [x0] [] [] (.nne (.a (.a (.a (.a (.a (.v 0) (.k 1)) (.k 1)) (.k 1)) (.k 1)) (.k 1)) (.a (.a (.a (.a (.v 0) (.k 1)) (.k 1)) (.k 1)) (.k 1))) [1] rfl
theorem om120 : (0 : Int) ≤ (2 : Int) :=
  linG [] [] [] (.zle (.k 0) (.k 2)) [1] rfl
theorem om122 : ∀ {x0 x1 x2 x3 : Nat}, x2 < x0 → x1 + (1 : Nat) + (1 : Nat) + (1 : Nat) + (1 : Nat) + (1 : Nat) + (1 : Nat) + (1 : Nat) < x3 → x3 < x2 → x0 ≠ x1 + (1 : Nat) + (1 : Nat) + (1 : Nat) + (1 : Nat) + (1 : Nat) + (1 : Nat) :=
  fun {x0} {x1} {x2} {x3} => linG [x2, x0, x1, x3] [] [.nl (.v 0) (.v 1), .nl (.a (.a (.a (.a (.a (.a (.a (.v 2) (.k 1)) (.k 1)) (.k 1)) (.k 1)) (.k 1)) (.k 1)) (.k 1)) (.v 3), .nl (.v 3) (.v 0)] (.nne (.v 1) (.a (.a (.a (.a (.a (.a (.v 2) (.k 1)) (.k 1)) (.k 1)) (.k 1)) (.k 1)) (.k 1))) [1, 0, 1, 1, 1] rfl
theorem om123 : ∀ {x0 x1 : Int}, x1 < x0 + (1 : Int) → (x0 + (1 : Int) - x1 - (1 : Int)) / (1 : Int) + (1 : Int) = (↑(x0 + (1 : Int) - x1).toNat : Int) := by
  intros; first | decide | lia | omega
theorem om124 : ∀ {x0 x1 : Int}, (1 : Int) ≤ x0 ∧ x0 ≤ x1 → (1 : Int) ≤ x0 :=
  fun {x0} {x1} => linG [] [x0, x1] [.an (.zle (.k 1) (.v 0)) (.zle (.v 0) (.v 1))] (.zle (.k 1) (.v 0)) [1, 1] rfl
theorem om125 : ∀ {x0 x1 x2 x3 x4 : Nat}, (1 : Nat) + x0 + x1 + x2 + x3 + x4 + (1 : Nat) ≤ (999 : Nat) → (999 : Nat) = (998 : Nat) - ((1 : Nat) + x0 + x1 + x2 + x3 + x4) + x4 + (1 : Nat) + x3 + x2 + x1 + x0 + (1 : Nat) := by
  intros; first | decide | lia | omega
theorem om126 : ∀ {x0 x1 : Nat}, x0 + (20 : Nat) * (x1 + (1 : Nat)) + (200 : Nat) < PySem.cLine → x0 + (3 : Nat) + (20 : Nat) * x1 + (200 : Nat) < PySem.cLine :=
  fun {x0} {x1} => linG [x0, x1, PySem.cLine] [] [.nl (.a (.a (.v 0) (.m 20 (.a (.v 1) (.k 1)))) (.k 200)) (.v 2)] (.nl (.a (.a (.a (.v 0) (.k 3)) (.m 20 (.v 1))) (.k 200)) (.v 2)) [1, 1] rfl
theorem om127 : ∀ {x0 : Nat}, ((-1 : Int) + (↑x0 : Int)).toNat = x0 - (1 : Nat) := by
  intros; first | decide | lia | omega
theorem om129 : ∀ {x0 x1 : Nat}, (1 : Nat) ≤ x0 ∧ x0 ≤ (6 : Nat) → x1 = (1 : Nat) → x0 + x1 ≤ (16777216 : Nat) :=
  fun {x0} {x1} => linG [x0, x1] [] [.an (.nle (.k 1) (.v 0)) (.nle (.v 0) (.k 6)), .ne (.v 1) (.k 1)] (.nle (.a (.v 0) (.v 1)) (.k 16777216)) [1, 0, 1, 1] rfl
theorem om131 : ∀ {x0 : Nat}, (145 : Nat) < x0 → (145 : Nat) ≠ x0 + (1 : Nat) + (1 : Nat) + (1 : Nat) + (1 : Nat) :=
  fun {x0} => linG [x0] [] [.nl (.k 145) (.v 0)] (.nne (.k 145) (.a (.a (.a (.a (.v 0) (.k 1)) (.k 1)) (.k 1)) (.k 1))) [0, 1, 1] rfl
theorem om132 : ∀ {x0 x1 : Nat}, x0 < x1 + (1 : Nat) → x0 ≥ x1 → x0 = x1 :=
  fun {x0} {x1} => linE [x0, x1] [] [.nl (.v 0) (.a (.v 1) (.k 1)), .nle (.v 1) (.v 0)] (.v 0) (.v 1) [1, 1] [1, 0, 1] rfl rfl
theorem om133 : ∀ {x0 x1 x2 : Nat}, x0 ≤ x1 → x1 = x2 → x2 ≤ (1000 : Nat) → x0 ≤ (1000 : Nat) :=
  fun {x0} {x1} {x2} => linG [x0, x1, x2] [] [.nle (.v 0) (.v 1), .ne (.v 1) (.v 2), .nle (.v 2) (.k 1000)] (.nle (.v 0) (.k 1000)) [1, 1, 1, 0, 1] rfl
theorem om134 : ∀ {x0 : Nat}, Min.min x0 ((0 : Nat) + (1 : Nat) + (1 : Nat)) ≤ (100000 : Nat) := by
  intros; first | decide | lia | omega
theorem om135 : ∀ {x0 x1 x2 : Nat} {x3 : Int}, x0 < x2 → x2 ≤ (5 : Nat) → x1 < x3.toNat → (0 : Int) ≤ x3 ∧ x3 ≤ (5 : Int) → (0 : Int) ≤ (↑x0 : Int) ∧ (↑x0 : Int) ≤ (5 : Int) ∧ (0 : Int) ≤ (↑x1 : Int) ∧ (↑x1 : Int) ≤ (5 : Int) := by
  intros; first | decide | lia | omega
theorem om137 : ∀ {x0 x1 x2 x3 : Nat}, x0 ≤ (6 : Nat) * x1 + x2 → x2 ≤ (6 : Nat) → x1 < x3 → x3 ≤ (6 : Nat) ^ (5 : Nat) → x0 ≤ (100000 : Nat) := by
  intros; first | decide | lia | omega
theorem om138 : ∀ {x0 x1 x2 : Nat}, x0 + (x2 + (1 : Nat)) ≤ (2000 : Nat) → x1 ≤ (1 : Nat) → x0 + x1 + (x2 - (1 : Nat)) ≤ (2000 : Nat) := by
  intros; first | decide | lia | omega
theorem om139 : ∀ {x0 x1 x2 x3 : Nat}, x0 ≤ (5 : Nat) * x1 + x2 → x2 ≤ (5 : Nat) → x1 < x3 → x3 ≤ (5 : Nat) → x0 ≤ (100000 : Nat) :=
  fun {x0} {x1} {x2} {x3} => linG [x0, x1, x2, x3] [] [.nle (.v 0) (.a (.m 5 (.v 1)) (.v 2)), .nle (.v 2) (.k 5), .nl (.v 1) (.v 3), .nle (.v 3) (.k 5)] (.nle (.v 0) (.k 100000)) [1, 1, 1, 5, 5] rfl
theorem om140 : ∀ {x0 : Int} {x1 x2 x3 : Nat}, ((0 : Int) ≤ x0 - (↑x1 : Int) + (1 : Int) → (↑x3 : Int) = (↑((0 : Nat) + (1 : Nat)) : Int) * (x0 - (↑x1 : Int) + (1 : Int))) → x2 = x3 → x0 < (↑(x1 + x2) : Int) := by
  intros; first | decide | lia | omega
theorem om141 : ∀ {x0 x1 : Nat}, x1 = (5 : Nat) → Min.min x0 x1 ≤ (100000 : Nat) := by
  intros; first | decide | lia | omega
theorem om142 : ∀ {x0 x1 : Nat}, x0 < x1 → x0 ≠ x1 + (1 : Nat) + (1 : Nat) + (1 : Nat) :=
  fun {x0} {x1} => linG [x0, x1] [] [.nl (.v 0) (.v 1)] (.nne (.v 0) (.a (.a (.a (.v 1) (.k 1)) (.k 1)) (.k 1))) [0, 1, 1] rfl
theorem om143 : ∀ {x0 x1 : Nat}, x1 + (1 : Nat) + (1 : Nat) + (1 : Nat) + (1 : Nat) + (1 : Nat) + (1 : Nat) + (1 : Nat) < x0 → (145 : Nat) < x1 → (145 : Nat) < x0 :=
  fun {x0} {x1} => linG [x1, x0] [] [.nl (.a (.a (.a (.a (.a (.a (.a (.v 0) (.k 1)) (.k 1)) (.k 1)) (.k 1)) (.k 1)) (.k 1)) (.k 1)) (.v 1), .nl (.k 145) (.v 0)] (.nl (.k 145) (.v 1)) [1, 1, 1] rfl
theorem om144 : ∀ {x0 : Int}, x0 < (2 : Int) → x0.toNat < (2 : Nat) := by
  intros; first | decide | lia | omega
theorem om145 : ∀ {x0 x1 : Int}, (1 : Int) ≤ x0 ∧ x0 ≤ x1 → (1 : Int) ≤ x1 ∧ x1 ≤ (5 : Int) → x0 ≤ (5 : Int) :=
  fun {x0} {x1} => linG [] [x0, x1] [.an (.zle (.k 1) (.v 0)) (.zle (.v 0) (.v 1)), .an (.zle (.k 1) (.v 1)) (.zle (.v 1) (.k 5))] (.zle (.v 0) (.k 5)) [1, 0, 1, 0, 1] rfl
theorem om146 : ∀ {x0 x1 : Nat} {x2 x3 : Int}, x0 ≤ (6 : Nat) * x1 + (x2 + (1 : Int) - x3).toNat → (x2 + (1 : Int) - x3).toNat ≤ (6 : Nat) → x0 ≤ (6 : Nat) * (x1 + (1 : Nat)) := by
  intros; first | decide | lia | omega
theorem om147 : ∀ {x0 : Nat}, ((0 : Int) + (↑x0 : Int) + (3 : Int)).toNat = x0 + (3 : Nat) := by
  intros; first | decide | lia | omega
theorem om148 : ∀ {x0 : Nat}, x0 + (4 : Nat) < PySem.recursionLimit → x0 < PySem.recursionLimit :=
  fun {x0} => linG [x0, PySem.recursionLimit] [] [.nl (.a (.v 0) (.k 4)) (.v 1)] (.nl (.v 0) (.v 1)) [1, 1] rfl
theorem om149 : -(2 : Int) ^ (62 : Nat) ≤ (0 : Int) :=
  linG [] [] [] (.zle (.k (-(2:Int)^62)) (.k 0)) [1] rfl
theorem om151 : ∀ {x0 x1 : Nat}, x0 + (20 : Nat) * (x1 + (1 : Nat)) + (200 : Nat) < PySem.cLine → x0 + (3 : Nat) + (64 : Nat) < PySem.cLine :=
  fun {x0} {x1} => linG [x0, x1, PySem.cLine] [] [.nl (.a (.a (.v 0) (.m 20 (.a (.v 1) (.k 1)))) (.k 200)) (.v 2)] (.nl (.a (.a (.v 0) (.k 3)) (.k 64)) (.v 2)) [1, 1, 0, 20] rfl
theorem om152 : ∀ {x0 : Int}, x0 ≤ (100 : Int) → x0 < (2 : Int) ^ (63 : Nat) :=
  fun {x0} => linG [] [x0] [.zle (.v 0) (.k 100)] (.zl (.v 0) (.k (2^63))) [1, 1] rfl
theorem om153 : ∀ {x0 : Nat}, ¬(1 : Int) < (↑x0 : Int) → Int.toNat (0 : Int) = x0 - (1 : Nat) := by
  intros; first | decide | lia | omega
theorem om154 : ∀ {x0 x1 : Nat}, x1 + (1 : Nat) < x0 → x0 = x0 - (1 : Nat) + (1 : Nat) := by
  intros; first | decide | lia | omega
theorem om155 : ∀ {x0 : Nat}, x0 + (120 : Nat) < PySem.cLine → x0 + (3 : Nat) + (110 : Nat) < PySem.cLine :=
  fun {x0} => linG [x0, PySem.cLine] [] [.nl (.a (.v 0) (.k 120)) (.v 1)] (.nl (.a (.a (.v 0) (.k 3)) (.k 110)) (.v 1)) [1, 1] rfl
theorem om156 : ∀ {x0 x1 x2 : Nat}, x0 = x1 → x1 ≤ x2 → x2 < (999 : Nat) → (↑x0 : Int) < (2 : Int) ^ (63 : Nat) :=
  fun {x0} {x1} {x2} => linG [x0, x1, x2] [] [.ne (.v 0) (.v 1), .nle (.v 1) (.v 2), .nl (.v 2) (.k 999)] (.zl (.c (.v 0)) (.k (2^63))) [1, 1, 0, 1, 1] rfl
theorem om157 : ∀ {x0 x1 : Nat}, x0 + (x1 + (1 : Nat)) + (2 : Nat) < PySem.recursionLimit → x0 + (1 : Nat) + x1 + (2 : Nat) < PySem.recursionLimit :=
  fun {x0} {x1} => linG [x0, x1, PySem.recursionLimit] [] [.nl (.a (.a (.v 0) (.a (.v 1) (.k 1))) (.k 2)) (.v 2)] (.nl (.a (.a (.a (.v 0) (.k 1)) (.v 1)) (.k 2)) (.v 2)) [1, 1] rfl
theorem om158 : ∀ {x0 x1 x2 x3 x4 x5 x6 : Nat} {x7 : Prop}, x1 < x0 → x2 < x1 ∧ x3 < x1 ∧ x4 < x1 ∧ x5 + (1 : Nat) < x1 ∧ (145 : Nat) < x1 ∧ x6 < x1 ∧ x7 → x0 ≠ (145 : Nat) :=
  fun {x0} {x1} {x2} {x3} {x4} {x5} {x6} {x7} => linG [x1, x0, x2, x3, x4, x5, x6] [] [.nl (.v 0) (.v 1), .an (.nl (.v 2) (.v 0)) (.an (.nl (.v 3) (.v 0)) (.an (.nl (.v 4) (.v 0)) (.an (.nl (.a (.v 5) (.k 1)) (.v 0)) (.an (.nl (.k 145) (.v 0)) (.an (.nl (.v 6) (.v 0)) (.pr x7))))))] (.nne (.v 1) (.k 145)) [1, 0, 1, 0, 0, 0, 0, 1] rfl
theorem om159 : ∀ {x0 : Nat}, x0 + (120 : Nat) < PySem.cLine → x0 + (3 : Nat) + (112 : Nat) < PySem.cLine :=
  fun {x0} => linG [x0, PySem.cLine] [] [.nl (.a (.v 0) (.k 120)) (.v 1)] (.nl (.a (.a (.v 0) (.k 3)) (.k 112)) (.v 1)) [1, 1] rfl
theorem om160 : ∀ {x0 x1 x2 : Nat}, x0 + (1 : Nat) = x1 + (1 : Nat) → x1 + (1 : Nat) ≤ (1 : Nat) + (5 : Nat) * x2 → x2 < (999 : Nat) → x0 ≤ (1000000 : Nat) :=
  fun {x0} {x1} {x2} => linG [x0, x1, x2] [] [.ne (.a (.v 0) (.k 1)) (.a (.v 1) (.k 1)), .nle (.a (.v 1) (.k 1)) (.a (.k 1) (.m 5 (.v 2))), .nl (.v 2) (.k 999)] (.nle (.v 0) (.k 1000000)) [1, 1, 0, 1, 5] rfl
theorem om161 : ∀ {x0 x1 x2 : Nat}, x0 + (1 : Nat) ≤ (1 : Nat) + (5 : Nat) * x2 → x1 ≤ (5 : Nat) → x0 + x1 ≤ (1 : Nat) + (5 : Nat) * (x2 + (1 : Nat)) :=
  fun {x0} {x1} {x2} => linG [x0, x2, x1] [] [.nle (.a (.v 0) (.k 1)) (.a (.k 1) (.m 5 (.v 1))), .nle (.v 2) (.k 5)] (.nle (.a (.v 0) (.v 2)) (.a (.k 1) (.m 5 (.a (.v 1) (.k 1))))) [1, 1, 1] rfl
theorem om162 : ∀ {x0 : Nat}, (1 : Nat) ≤ x0 ∧ x0 ≤ (6 : Nat) → x0 ≤ (16777216 : Nat) :=
  fun {x0} => linG [x0] [] [.an (.nle (.k 1) (.v 0)) (.nle (.v 0) (.k 6))] (.nle (.v 0) (.k 16777216)) [1, 0, 1] rfl
theorem om163 : ∀ {x0 : Int}, (0 : Int) ≤ x0 ∧ x0 ≤ (5 : Int) → -(2 : Int) ^ (62 : Nat) ≤ x0 :=
  fun {x0} => linG [] [x0] [.an (.zle (.k 0) (.v 0)) (.zle (.v 0) (.k 5))] (.zle (.k (-(2:Int)^62)) (.v 0)) [1, 1] rfl
theorem om164 : ∀ {x0 x1 x2 x3 x4 x5 : Nat}, x2 < x0 ∧ x3 < x0 ∧ x4 < x0 ∧ x5 < x0 ∧ x1 + (1 : Nat) + (1 : Nat) + (1 : Nat) + (1 : Nat) + (1 : Nat) + (1 : Nat) + (1 : Nat) < x0 ∧ x1 + (1 : Nat) + (1 : Nat) + (1 : Nat) + (1 : Nat) + (1 : Nat) + (1 : Nat) < x0 ∧ x1 + (1 : Nat) + (1 : Nat) + (1 : Nat) + (1 : Nat) + (1 : Nat) < x0 ∧ x1 + (1 : Nat) + (1 : Nat) + (1 : Nat) + (1 : Nat) < x0 ∧ x1 + (1 : Nat) + (1 : Nat) + (1 : Nat) < x0 ∧ x1 + (1 : Nat) + (1 : Nat) < x0 ∧ x1 + (1 : Nat) < x0 ∧ (145 : Nat) < x0 → x0 ≠ x1 + (1 : Nat) + (1 : Nat) + (1 : Nat) + (1 : Nat) :=
  fun {x0} {x1} {x2} {x3} {x4} {x5} => linG [x2, x0, x3, x4, x5, x1] [] [.an (.nl (.v 0) (.v 1)) (.an (.nl (.v 2) (.v 1)) (.an (.nl (.v 3) (.v 1)) (.an (.nl (.v 4) (.v 1)) (.an (.nl (.a (.a (.a (.a (.a (.a (.a (.v 5) (.k 1)) (.k 1)) (.k 1)) (.k 1)) (.k 1)) (.k 1)) (.k 1)) (.v 1)) (.an (.nl (.a (.a (.a (.a (.a (.a (.v 5) (.k 1)) (.k 1)) (.k 1)) (.k 1)) (.k 1)) (.k 1)) (.v 1)) (.an (.nl (.a (.a (.a (.a (.a (.v 5) (.k 1)) (.k 1)) (.k 1)) (.k 1)) (.k 1)) (.v 1)) (.an (.nl (.a (.a (.a (.a (.v 5) (.k 1)) (.k 1)) (.k 1)) (.k 1)) (.v 1)) (.an (.nl (.a (.a (.a (.v 5) (.k 1)) (.k 1)) (.k 1)) (.v 1)) (.an (.nl (.a (.a (.v 5) (.k 1)) (.k 1)) (.v 1)) (.an (.nl (.a (.v 5) (.k 1)) (.v 1)) (.nl (.k 145) (.v 1))))))))))))] (.nne (.v 1) (.a (.a (.a (.a (.v 5) (.k 1)) (.k 1)) (.k 1)) (.k 1))) [1, 0, 0, 0, 0, 0, 1] rfl
theorem om165 : ∀ {x0 x1 : Nat}, ¬(↑x1 : Int) < (↑x0 : Int) → x1 = (5 : Nat) → x0 ≤ (5 : Nat) :=
  fun {x0} {x1} => linG [x1, x0] [] [.nzl (.c (.v 0)) (.c (.v 1)), .ne (.v 0) (.k 5)] (.nle (.v 1) (.k 5)) [1, 1, 1] rfl
theorem om166 : ∀ {x0 : Nat}, x0 + (1 : Nat) + (1 : Nat) + (1 : Nat) + (1 : Nat) + (1 : Nat) + (1 : Nat) + (1 : Nat) ≠ x0 + (1 : Nat) + (1 : Nat) + (1 : Nat) + (1 : Nat) + (1 : Nat) :=
  fun {x0} => linG [x0] [] [] (.nne (.a (.a (.a (.a (.a (.a (.a (.v 0) (.k 1)) (.k 1)) (.k 1)) (.k 1)) (.k 1)) (.k 1)) (.k 1)) (.a (.a (.a (.a (.a (.v 0) (.k 1)) (.k 1)) (.k 1)) (.k 1)) (.k 1))) [1] rfl
theorem om167 : (2 : Int) < (↑((1 : Nat) + (1 : Nat) + (1 : Nat)) : Int) :=
  linG [] [] [] (.zl (.k 2) (.c (.a (.a (.k 1) (.k 1)) (.k 1)))) [1] rfl
theorem om168 : ∀ {x0 : Nat}, (145 : Nat) < x0 → (145 : Nat) < x0 + (1 : Nat) + (1 : Nat) + (1 : Nat) + (1 : Nat) + (1 : Nat) + (1 : Nat) + (1 : Nat) :=
  fun {x0} => linG [x0] [] [.nl (.k 145) (.v 0)] (.nl (.k 145) (.a (.a (.a (.a (.a (.a (.a (.v 0) (.k 1)) (.k 1)) (.k 1)) (.k 1)) (.k 1)) (.k 1)) (.k 1))) [1, 1] rfl
theorem om169 : ∀ {x0 : Nat} {x1 x2 : Int}, x0 < (x1 + (1 : Int) - x2).toNat → (x1 + (1 : Int) - x2).toNat ≤ (6 : Nat) → x0 + (1 : Nat) ≤ (6 : Nat) := by
  intros; first | decide | lia | omega
theorem om170 : ∀ {x0 : Nat}, x0 + (200 : Nat) < PySem.cLine → x0 + (3 : Nat) + (64 : Nat) < PySem.cLine :=
  fun {x0} => linG [x0, PySem.cLine] [] [.nl (.a (.v 0) (.k 200)) (.v 1)] (.nl (.a (.a (.v 0) (.k 3)) (.k 64)) (.v 1)) [1, 1] rfl
theorem om171 : ∀ {x0 x1 : Nat}, x0 = x1 → x1 ≤ (5 : Nat) → x0 ≤ (16777216 : Nat) :=
  fun {x0} {x1} => linG [x0, x1] [] [.ne (.v 0) (.v 1), .nle (.v 1) (.k 5)] (.nle (.v 0) (.k 16777216)) [1, 1, 0, 1] rfl
theorem om172 : ∀ {x0 x1 : Int}, (1 : Int) ≤ x0 ∧ x0 ≤ x1 → x0 ≤ x1 :=
  fun {x0} {x1} => linG [] [x0, x1] [.an (.zle (.k 1) (.v 0)) (.zle (.v 0) (.v 1))] (.zle (.v 0) (.v 1)) [1, 0, 1] rfl
theorem om173 : ∀ {x0 x1 x2 : Nat}, x2 < x1 → x0 < x2 → x0 < x1 :=
  fun {x0} {x1} {x2} => linG [x2, x1, x0] [] [.nl (.v 0) (.v 1), .nl (.v 2) (.v 0)] (.nl (.v 2) (.v 1)) [1, 1, 1] rfl
theorem om174 : ∀ {x0 : Nat}, x0 + (1 : Nat) + (1 : Nat) + (1 : Nat) + (1 : Nat) + (1 : Nat) + (1 : Nat) ≠ x0 + (1 : Nat) + (1 : Nat) + (1 : Nat) + (1 : Nat) + (1 : Nat) :=
  fun {x0} => linG [x0] [] [] (.nne (.a (.a (.a (.a (.a (.a (.v 0) (.k 1)) (.k 1)) (.k 1)) (.k 1)) (.k 1)) (.k 1)) (.a (.a (.a (.a (.a (.v 0) (.k 1)) (.k 1)) (.k 1)) (.k 1)) (.k 1))) [1] rfl
theorem om175 : ∀ {x0 x1 : Nat}, x0 = x1 → (1 : Nat) ≤ x1 → (0 : Int) < (↑x0 : Int) :=
  fun {x0} {x1} => linG [x0, x1] [] [.ne (.v 0) (.v 1), .nle (.k 1) (.v 1)] (.zl (.k 0) (.c (.v 0))) [1, 0, 1, 1] rfl
theorem om176 : ∀ {x0 : Nat}, (145 : Nat) < x0 → (145 : Nat) < x0 + (1 : Nat) + (1 : Nat) + (1 : Nat) + (1 : Nat) + (1 : Nat) + (1 : Nat) :=
  fun {x0} => linG [x0] [] [.nl (.k 145) (.v 0)] (.nl (.k 145) (.a (.a (.a (.a (.a (.a (.v 0) (.k 1)) (.k 1)) (.k 1)) (.k 1)) (.k 1)) (.k 1))) [1, 1] rfl
theorem om177 : ∀ {x0 x1 : Nat}, x0 ≤ (1 : Nat) → x1 ≤ (1000 : Nat) → (PySem.Str.ofString "").length = (0 : Nat) → (PySem.Str.ofString "").length + x0 + (x1 - (1 : Nat)) ≤ (2000 : Nat) := by
  intros; first | decide | lia | omega
theorem om178 : ∀ {x0 : Nat}, x0 ≤ (100 : Nat) → x0 < (2 : Nat) ^ (62 : Nat) := by
  intros; first | decide | lia | omega
theorem om179 : ∀ {x0 x1 x2 x3 : Nat} {x4 : Prop}, x1 < x0 → x2 + (1 : Nat) < x1 ∧ (145 : Nat) < x1 ∧ x3 < x1 ∧ x4 → x0 ≠ (145 : Nat) :=
  fun {x0} {x1} {x2} {x3} {x4} => linG [x1, x0, x2, x3] [] [.nl (.v 0) (.v 1), .an (.nl (.a (.v 2) (.k 1)) (.v 0)) (.an (.nl (.k 145) (.v 0)) (.an (.nl (.v 3) (.v 0)) (.pr x4)))] (.nne (.v 1) (.k 145)) [1, 0, 1, 0, 1] rfl
theorem om180 : ∀ {x0 : Nat}, x0 ≤ (5 : Nat) → x0 ≤ (100000 : Nat) :=
  fun {x0} => linG [x0] [] [.nle (.v 0) (.k 5)] (.nle (.v 0) (.k 100000)) [1, 1] rfl
theorem om181 : ∀ {x0 x1 : Nat}, x1 = (1 : Nat) → (0 : Nat) < x0 + x1 :=
  fun {x0} {x1} => linG [x1, x0] [] [.ne (.v 0) (.k 1)] (.nl (.k 0) (.a (.v 1) (.v 0))) [1, 0, 1, 1] rfl
theorem om182 : ∀ {x0 : Int} {x1 : Nat} {x2 : Int}, (0 : Int) ≤ x0 ∧ x0 ≤ (5 : Int) → x1 < (x2 + (1 : Int) - x0).toNat → x2 ≤ (5 : Int) → (0 : Int) ≤ x0 + (↑x1 : Int) ∧ x0 + (↑x1 : Int) ≤ (5 : Int) := by
  intros; first | decide | lia | omega
theorem om183 : ∀ {x0 x1 : Int}, (0 : Int) ≤ x1 ∧ x1 ≤ (5 : Int) → (0 : Int) ≤ x0 ∧ x0 ≤ (5 : Int) → (x0 + (1 : Int) - x1).toNat ≤ (6 : Nat) := by
  intros; first | decide | lia | omega
theorem om184 : ∀ {x0 : Nat}, ((1 : Int) + (1 : Int) * (↑x0 : Int)).toNat = x0 + (1 : Nat) := by
  intros; first | decide | lia | omega
theorem om185 : ∀ {x0 : Nat}, x0 ≤ (5 : Nat) → (↑x0 : Int) < (2 : Int) ^ (62 : Nat) :=
  fun {x0} => linG [x0] [] [.nle (.v 0) (.k 5)] (.zl (.c (.v 0)) (.k (2^62))) [1, 1] rfl
theorem om186 : ∀ {x0 x1 x2 : Nat}, x1 = x2 + (1 : Nat) → x0 < x2 → x0 < x1 :=
  fun {x0} {x1} {x2} => linG [x1, x2, x0] [] [.ne (.v 0) (.a (.v 1) (.k 1)), .nl (.v 2) (.v 1)] (.nl (.v 2) (.v 0)) [1, 0, 1, 1] rfl
theorem om187 : ∀ {x0 x1 : Nat}, x0 = x1 → (1 : Nat) ≤ x1 → (↑x0 : Int) ≠ (0 : Int) :=
  fun {x0} {x1} => linG [x0, x1] [] [.ne (.v 0) (.v 1), .nle (.k 1) (.v 1)] (.nze (.c (.v 0)) (.k 0)) [1, 0, 0, 1, 1] rfl
theorem om188 : ∀ {x0 : Nat}, x0 < (5 : Nat) → x0 + (1 : Nat) ≤ (16777216 : Nat) :=
  fun {x0} => linG [x0] [] [.nl (.v 0) (.k 5)] (.nle (.a (.v 0) (.k 1)) (.k 16777216)) [1, 1] rfl
theorem om189 : ∀ {x0 x1 : Int}, ¬x1 < x0 + (1 : Int) → (0 : Int) = (↑(x0 + (1 : Int) - x1).toNat : Int) := by
  intros; first | decide | lia | omega
theorem om190 : ∀ {x0 : Nat}, (145 : Nat) < x0 → (145 : Nat) < x0 + (1 : Nat) + (1 : Nat) + (1 : Nat) + (1 : Nat) + (1 : Nat) :=
  fun {x0} => linG [x0] [] [.nl (.k 145) (.v 0)] (.nl (.k 145) (.a (.a (.a (.a (.a (.v 0) (.k 1)) (.k 1)) (.k 1)) (.k 1)) (.k 1))) [1, 1] rfl
theorem om191 : ∀ {x0 : Nat}, x0 + (6 : Nat) < PySem.recursionLimit → x0 + (1 : Nat) + (1 : Nat) < PySem.recursionLimit :=
  fun {x0} => linG [x0, PySem.recursionLimit] [] [.nl (.a (.v 0) (.k 6)) (.v 1)] (.nl (.a (.a (.v 0) (.k 1)) (.k 1)) (.v 1)) [1, 1] rfl
theorem om192 : ∀ {x0 x1 : Nat}, ¬(↑x1 : Int) < (↑x0 : Int) → x1 = (5 : Nat) → (1 : Nat) ≤ x0 + (1 : Nat) ∧ x0 + (1 : Nat) ≤ (6 : Nat) := by
  intros; first | decide | lia | omega
theorem om193 : ∀ {x0 : Nat} {x1 : Int}, x0 < x1.toNat → (0 : Int) ≤ x1 ∧ x1 ≤ (5 : Int) → x0 + (1 : Nat) ≤ (5 : Nat) := by
  intros; first | decide | lia | omega
theorem om194 : ∀ {x0 x1 : Nat}, x1 + x0 = (12 : Nat) → x1 ≤ (10 : Nat) → x0 = x0 - (1 : Nat) + (1 : Nat) := by
  intros; first | decide | lia | omega
theorem om195 : ∀ {x0 : Nat}, x0 + (1 : Nat) ≤ (1000 : Nat) → x0 ≤ (1000 : Nat) :=
  fun {x0} => linG [x0] [] [.nle (.a (.v 0) (.k 1)) (.k 1000)] (.nle (.v 0) (.k 1000)) [1, 1] rfl
theorem om196 : ∀ {x0 : Nat}, x0 - (1 : Nat) < x0 → (↑x0 : Int) - (1 : Int) = (↑(x0 - (1 : Nat)) : Int) := by
  intros; first | decide | lia | omega
theorem om197 : ∀ {x0 : Nat}, (1 : Nat) ≤ x0 → Max.max (0 : Int) (Min.min (1 : Int) (↑x0 : Int)) = (1 : Int) := by
  intros; first | decide | lia | omega
theorem om198 : ∀ {x0 : Nat}, x0 + (1 : Nat) + (1 : Nat) ≠ x0 + (1 : Nat) + (1 : Nat) + (1 : Nat) :=
  fun {x0} => linG [x0] [] [] (.nne (.a (.a (.v 0) (.k 1)) (.k 1)) (.a (.a (.a (.v 0) (.k 1)) (.k 1)) (.k 1))) [0, 1] rfl
theorem om199 : ∀ {x0 : Nat}, x0 + (1 : Nat) + (1 : Nat) + (1 : Nat) + (1 : Nat) ≠ x0 + (1 : Nat) + (1 : Nat) + (1 : Nat) + (1 : Nat) + (1 : Nat) + (1 : Nat) + (1 : Nat) :=
  fun {x0} => linG [x0] [] [] (.nne (.a (.a (.a (.a (.v 0) (.k 1)) (.k 1)) (.k 1)) (.k 1)) (.a (.a (.a (.a (.a (.a (.a (.v 0) (.k 1)) (.k 1)) (.k 1)) (.k 1)) (.k 1)) (.k 1)) (.k 1))) [0, 1] rfl
theorem om200 : ∀ {x0 : Nat}, x0 + (1 : Nat) + (1 : Nat) + (1 : Nat) + (1 : Nat) ≠ x0 + (1 : Nat) + (1 : Nat) + (1 : Nat) + (1 : Nat) + (1 : Nat) :=
  fun {x0} => linG [x0] [] [] (.nne (.a (.a (.a (.a (.v 0) (.k 1)) (.k 1)) (.k 1)) (.k 1)) (.a (.a (.a (.a (.a (.v 0) (.k 1)) (.k 1)) (.k 1)) (.k 1)) (.k 1))) [0, 1] rfl
theorem om201 : ∀ {x0 : Int} {x1 x2 : Nat}, x1 < ((↑x2 : Int) - x0).toNat → x2 ≤ (1000 : Nat) → x0 + (↑x1 : Int) < (2 : Int) ^ (63 : Nat) := by
  intros; first | decide | lia | omega
theorem om202 : ∀ {x0 x1 x2 : Nat}, x0 ≤ (6 : Nat) * x1 + x2 → x0 + ((0 : Nat) + (1 : Nat)) ≤ (6 : Nat) * x1 + (x2 + (1 : Nat)) :=
  fun {x0} {x1} {x2} => linG [x0, x1, x2] [] [.nle (.v 0) (.a (.m 6 (.v 1)) (.v 2))] (.nle (.a (.v 0) (.a (.k 0) (.k 1))) (.a (.m 6 (.v 1)) (.a (.v 2) (.k 1)))) [1, 1] rfl
theorem om203 : ∀ {x0 : Nat}, x0 + (1 : Nat) + (1 : Nat) + (1 : Nat) + (1 : Nat) + (1 : Nat) + (1 : Nat) + (1 : Nat) ≠ x0 + (1 : Nat) + (1 : Nat) + (1 : Nat) + (1 : Nat) + (1 : Nat) + (1 : Nat) :=
  fun {x0} => linG [x0] [] [] (.nne (.a (.a (.a (.a (.a (.a (.a (.v 0) (.k 1)) (.k 1)) (.k 1)) (.k 1)) (.k 1)) (.k 1)) (.k 1)) (.a (.a (.a (.a (.a (.a (.v 0) (.k 1)) (.k 1)) (.k 1)) (.k 1)) (.k 1)) (.k 1))) [1] rfl
theorem om204 : ∀ {x0 : Int} {x1 x2 : Nat}, x1 < ((↑x2 : Int) - x0).toNat → x2 ≤ (1000 : Nat) → x0 + (↑x1 : Int) ≤ (1000 : Int) := by
  intros; first | decide | lia | omega
theorem om205 : ∀ {x0 : Nat} {x1 : Int}, x0 < x1.toNat → (-1 : Int) ≤ x1 ∧ x1 ≤ (100 : Int) → (2 : Int) + (↑x0 : Int) ≤ (1000 : Int) := by
  intros; first | decide | lia | omega
theorem om206 : ∀ {x0 : Nat}, (145 : Nat) < x0 → (145 : Nat) ≠ x0 + (1 : Nat) + (1 : Nat) + (1 : Nat) + (1 : Nat) + (1 : Nat) + (1 : Nat) + (1 : Nat) :=
  fun {x0} => linG [x0] [] [.nl (.k 145) (.v 0)] (.nne (.k 145) (.a (.a (.a (.a (.a (.a (.a (.v 0) (.k 1)) (.k 1)) (.k 1)) (.k 1)) (.k 1)) (.k 1)) (.k 1))) [0, 1, 1] rfl
theorem om207 : ∀ {x0 : Nat}, (145 : Nat) < x0 → (145 : Nat) ≠ x0 + (1 : Nat) + (1 : Nat) + (1 : Nat) + (1 : Nat) + (1 : Nat) :=
  fun {x0} => linG [x0] [] [.nl (.k 145) (.v 0)] (.nne (.k 145) (.a (.a (.a (.a (.a (.v 0) (.k 1)) (.k 1)) (.k 1)) (.k 1)) (.k 1))) [0, 1, 1] rfl
theorem om208 : ∀ {x0 x1 : Nat}, x0 + (1 : Nat) < x1 → x1 ≤ (5 : Nat) → (↑x0 : Int) + (1 : Int) < (2 : Int) ^ (63 : Nat) :=
  fun {x0} {x1} => linG [x0, x1] [] [.nl (.a (.v 0) (.k 1)) (.v 1), .nle (.v 1) (.k 5)] (.zl (.a (.c (.v 0)) (.k 1)) (.k (2^63))) [1, 1, 1] rfl
theorem om209 : ∀ {x0 x1 : Nat}, x0 < x1 → x1 ≤ (5 : Nat) → x0 ≤ (5 : Nat) :=
  fun {x0} {x1} => linG [x0, x1] [] [.nl (.v 0) (.v 1), .nle (.v 1) (.k 5)] (.nle (.v 0) (.k 5)) [1, 1, 1] rfl
theorem om210 : ∀ {x0 : Nat}, (145 : Nat) < x0 → (145 : Nat) < x0 + (1 : Nat) + (1 : Nat) + (1 : Nat) + (1 : Nat) :=
  fun {x0} => linG [x0] [] [.nl (.k 145) (.v 0)] (.nl (.k 145) (.a (.a (.a (.a (.v 0) (.k 1)) (.k 1)) (.k 1)) (.k 1))) [1, 1] rfl
theorem om211 : ∀ {x0 : Int}, (0 : Int) ≤ x0 ∧ x0 ≤ (5 : Int) → x0 < (2 : Int) ^ (62 : Nat) :=
  fun {x0} => linG [] [x0] [.an (.zle (.k 0) (.v 0)) (.zle (.v 0) (.k 5))] (.zl (.v 0) (.k (2^62))) [1, 0, 1] rfl
theorem om212 : ∀ {x0 : Nat}, x0 + (1 : Nat) + (1 : Nat) + (1 : Nat) ≠ x0 + (1 : Nat) + (1 : Nat) + (1 : Nat) + (1 : Nat) + (1 : Nat) + (1 : Nat) + (1 : Nat) :=
  fun {x0} => linG [x0] [] [] (.nne (.a (.a (.a (.v 0) (.k 1)) (.k 1)) (.k 1)) (.a (.a (.a (.a (.a (.a (.a (.v 0) (.k 1)) (.k 1)) (.k 1)) (.k 1)) (.k 1)) (.k 1)) (.k 1))) [0, 1] rfl
theorem om213 : ∀ {x0 : Nat}, x0 + (1 : Nat) + (1 : Nat) + (1 : Nat) ≠ x0 + (1 : Nat) + (1 : Nat) + (1 : Nat) + (1 : Nat) + (1 : Nat) :=
  fun {x0} => linG [x0] [] [] (.nne (.a (.a (.a (.v 0) (.k 1)) (.k 1)) (.k 1)) (.a (.a (.a (.a (.a (.v 0) (.k 1)) (.k 1)) (.k 1)) (.k 1)) (.k 1))) [0, 1] rfl
theorem om214 : ∀ {x0 : Nat}, x0 + (1 : Nat) ≤ (100 : Nat) → x0 ≤ (100 : Nat) :=
  fun {x0} => linG [x0] [] [.nle (.a (.v 0) (.k 1)) (.k 100)] (.nle (.v 0) (.k 100)) [1, 1] rfl
theorem om215 : ∀ {x0 : Int}, (2 : Int) < x0 + (1 : Int) + (1 : Int) → x0 + (1 : Int) + (1 : Int) - (2 : Int) = (↑x0.toNat : Int) := by
  intros; first | decide | lia | omega
theorem om217 : ∀ {x0 x1 : Nat}, x0 < x1 → x1 ≤ (5 : Nat) → (↑x0 : Int) < (2 : Int) ^ (63 : Nat) :=
  fun {x0} {x1} => linG [x0, x1] [] [.nl (.v 0) (.v 1), .nle (.v 1) (.k 5)] (.zl (.c (.v 0)) (.k (2^63))) [1, 1, 1] rfl
theorem om218 : ∀ {x0 : Nat}, x0 + (1 : Nat) + (1 : Nat) ≠ x0 + (1 : Nat) + (1 : Nat) + (1 : Nat) + (1 : Nat) + (1 : Nat) + (1 : Nat) + (1 : Nat) :=
  fun {x0} => linG [x0] [] [] (.nne (.a (.a (.v 0) (.k 1)) (.k 1)) (.a (.a (.a (.a (.a (.a (.a (.v 0) (.k 1)) (.k 1)) (.k 1)) (.k 1)) (.k 1)) (.k 1)) (.k 1))) [0, 1] rfl
theorem om219 : ∀ {x0 : Nat}, x0 + (1 : Nat) + (1 : Nat) ≠ x0 + (1 : Nat) + (1 : Nat) + (1 : Nat) + (1 : Nat) + (1 : Nat) :=
  fun {x0} => linG [x0] [] [] (.nne (.a (.a (.v 0) (.k 1)) (.k 1)) (.a (.a (.a (.a (.a (.v 0) (.k 1)) (.k 1)) (.k 1)) (.k 1)) (.k 1))) [0, 1] rfl
theorem om220 : ∀ {x0 x1 x2 : Nat} {x3 : Prop}, x2 < x1 ∧ x0 < x1 ∧ x3 → x0 ≠ x1 :=
  fun {x0} {x1} {x2} {x3} => linG [x2, x1, x0] [] [.an (.nl (.v 0) (.v 1)) (.an (.nl (.v 2) (.v 1)) (.pr x3))] (.nne (.v 2) (.v 1)) [0, 1, 0, 1] rfl
theorem om221 : ∀ {x0 x1 x2 : Nat} {x3 : Prop}, x0 < x1 ∧ x2 < x1 ∧ x3 → x0 ≠ x1 :=
  fun {x0} {x1} {x2} {x3} => linG [x0, x1, x2] [] [.an (.nl (.v 0) (.v 1)) (.an (.nl (.v 2) (.v 1)) (.pr x3))] (.nne (.v 0) (.v 1)) [0, 1, 1] rfl
theorem om222 : ∀ {x0 : Nat}, (145 : Nat) < x0 → (145 : Nat) < x0 + (1 : Nat) + (1 : Nat) + (1 : Nat) :=
  fun {x0} => linG [x0] [] [.nl (.k 145) (.v 0)] (.nl (.k 145) (.a (.a (.a (.v 0) (.k 1)) (.k 1)) (.k 1))) [1, 1] rfl
theorem om223 : ∀ {x0 x1 x2 : Nat}, x2 ≤ x1 → x0 < x2 - (1 : Nat) → (↑x0 : Int) < (↑x1 : Int) := by
  intros; first | decide | lia | omega
theorem om224 : ∀ {x0 : Nat}, ¬(0 : Int) < (↑x0 : Int) - (1 : Int) → (0 : Int) = (↑(x0 - (1 : Nat)) : Int) := by
  intros; first | decide | lia | omega
theorem om225 : ∀ {x0 x1 : Nat}, x0 + (1 : Nat) ≤ (1 : Nat) + (5 : Nat) * x1 → x0 ≤ (1 : Nat) + (5 : Nat) * (x1 + (1 : Nat)) :=
  fun {x0} {x1} => linG [x0, x1] [] [.nle (.a (.v 0) (.k 1)) (.a (.k 1) (.m 5 (.v 1)))] (.nle (.v 0) (.a (.k 1) (.m 5 (.a (.v 1) (.k 1))))) [1, 1] rfl
theorem om226 : ∀ {x0 x1 : Nat}, x0 ≤ x1 → x1 ≤ (1000 : Nat) → x0 ≤ (16777216 : Nat) :=
  fun {x0} {x1} => linG [x0, x1] [] [.nle (.v 0) (.v 1), .nle (.v 1) (.k 1000)] (.nle (.v 0) (.k 16777216)) [1, 1, 1] rfl
theorem om227 : ∀ {x0 : Nat}, x0 + (4 : Nat) < PySem.recursionLimit → x0 + (1 : Nat) < PySem.recursionLimit :=
  fun {x0} => linG [x0, PySem.recursionLimit] [] [.nl (.a (.v 0) (.k 4)) (.v 1)] (.nl (.a (.v 0) (.k 1)) (.v 1)) [1, 1] rfl
theorem om228 : ∀ {x0 : Nat}, x0 + (1 : Nat) ≠ x0 + (1 : Nat) + (1 : Nat) + (1 : Nat) + (1 : Nat) + (1 : Nat) + (1 : Nat) + (1 : Nat) :=
  fun {x0} => linG [x0] [] [] (.nne (.a (.v 0) (.k 1)) (.a (.a (.a (.a (.a (.a (.a (.v 0) (.k 1)) (.k 1)) (.k 1)) (.k 1)) (.k 1)) (.k 1)) (.k 1))) [0, 1] rfl
theorem om229 : ∀ {x0 : Nat}, x0 + (1 : Nat) ≠ x0 + (1 : Nat) + (1 : Nat) + (1 : Nat) + (1 : Nat) + (1 : Nat) :=
  fun {x0} => linG [x0] [] [] (.nne (.a (.v 0) (.k 1)) (.a (.a (.a (.a (.a (.v 0) (.k 1)) (.k 1)) (.k 1)) (.k 1)) (.k 1))) [0, 1] rfl
theorem om230 : ∀ {x0 x1 x2 : Nat}, x1 = x2 + (2 : Nat) → x0 < x2 → x0 < x1 :=
  fun {x0} {x1} {x2} => linG [x1, x2, x0] [] [.ne (.v 0) (.a (.v 1) (.k 2)), .nl (.v 2) (.v 1)] (.nl (.v 2) (.v 0)) [1, 0, 1, 1] rfl
theorem om231 : ∀ {x0 x1 x2 : Nat}, x1 = (1 : Nat) → x0 + (x2 + (1 : Nat)) ≤ (2000 : Nat) → x0 + x1 ≤ (16777216 : Nat) :=
  fun {x0} {x1} {x2} => linG [x1, x0, x2] [] [.ne (.v 0) (.k 1), .nle (.a (.v 1) (.a (.v 2) (.k 1))) (.k 2000)] (.nle (.a (.v 1) (.v 0)) (.k 16777216)) [1, 1, 0, 1, 1] rfl
theorem om232 : ∀ {x0 x1 x2 : Nat}, x1 = x2 + (3 : Nat) → x0 < x2 → x0 < x1 :=
  fun {x0} {x1} {x2} => linG [x1, x2, x0] [] [.ne (.v 0) (.a (.v 1) (.k 3)), .nl (.v 2) (.v 1)] (.nl (.v 2) (.v 0)) [1, 0, 1, 1] rfl
theorem om233 : ∀ {x0 x1 x2 x3 : Nat}, x0 ≤ x1 → x1 ≤ x2 → x2 ≤ x3 → x3 ≤ (6 : Nat) ^ (5 : Nat) → x0 ≤ (100000 : Nat) := by
  intros; first | decide | lia | omega
theorem om234 : ∀ {x0 : Nat}, (97 : Nat) ≤ x0 ∧ x0 ≤ (101 : Nat) → x0 ≠ (92 : Nat) :=
  fun {x0} => linG [x0] [] [.an (.nle (.k 97) (.v 0)) (.nle (.v 0) (.k 101))] (.nne (.v 0) (.k 92)) [1, 0, 1] rfl
theorem om235 : ∀ {x0 x1 : Nat} {x2 : Int}, x0 ≤ (5 : Nat) * x1 + x2.toNat → x2.toNat ≤ (5 : Nat) → x0 ≤ (5 : Nat) * (x1 + (1 : Nat)) := by
  intros; first | decide | lia | omega
theorem om236 : ∀ {x0 x1 : Nat}, x0 = x1 → x1 ≤ (1000 : Nat) → (↑x0 : Int) < (2 : Int) ^ (63 : Nat) :=
  fun {x0} {x1} => linG [x0, x1] [] [.ne (.v 0) (.v 1), .nle (.v 1) (.k 1000)] (.zl (.c (.v 0)) (.k (2^63))) [1, 1, 0, 1] rfl
theorem om238 : ∀ {x0 x1 x2 : Nat}, x1 ≤ (1 : Nat) → x0 + (x2 + (1 : Nat)) ≤ (2000 : Nat) → x0 + x1 ≤ (16777216 : Nat) :=
  fun {x0} {x1} {x2} => linG [x1, x0, x2] [] [.nle (.v 0) (.k 1), .nle (.a (.v 1) (.a (.v 2) (.k 1))) (.k 2000)] (.nle (.a (.v 1) (.v 0)) (.k 16777216)) [1, 1, 1, 1] rfl
theorem om240 : ∀ {x0 x1 x2 : Nat}, x1 = x2 + (4 : Nat) → x0 < x2 → x0 < x1 :=
  fun {x0} {x1} {x2} => linG [x1, x2, x0] [] [.ne (.v 0) (.a (.v 1) (.k 4)), .nl (.v 2) (.v 1)] (.nl (.v 2) (.v 0)) [1, 0, 1, 1] rfl
theorem om242 : ∀ {x0 : Nat}, x0 + (1 : Nat) + (1 : Nat) + (1 : Nat) + (1 : Nat) ≠ x0 + (1 : Nat) + (1 : Nat) + (1 : Nat) + (1 : Nat) + (1 : Nat) + (1 : Nat) :=
  fun {x0} => linG [x0] [] [] (.nne (.a (.a (.a (.a (.v 0) (.k 1)) (.k 1)) (.k 1)) (.k 1)) (.a (.a (.a (.a (.a (.a (.v 0) (.k 1)) (.k 1)) (.k 1)) (.k 1)) (.k 1)) (.k 1))) [0, 1] rfl
theorem om243 : ∀ {x0 : Nat}, (145 : Nat) < x0 → (145 : Nat) < x0 + (1 : Nat) + (1 : Nat) :=
  fun {x0} => linG [x0] [] [.nl (.k 145) (.v 0)] (.nl (.k 145) (.a (.a (.v 0) (.k 1)) (.k 1))) [1, 1] rfl
theorem om244 : ∀ {x0 : Nat} {x1 : Int}, x1 < (↑x0 : Int) → (↑x0 : Int) - x1 = (↑((↑x0 : Int) - x1).toNat : Int) := by
  intros; first | decide | lia | omega
theorem om245 : ∀ {x0 x1 x2 : Nat}, x2 ≤ x1 → x0 ≤ (6 : Nat) * x2 → x0 ≤ x1 * (6 : Nat) := by
  intros; first | decide | lia | omega
theorem om246 : ∀ {x0 : Nat}, x0 + (1 : Nat) + (1 : Nat) + (1 : Nat) + (1 : Nat) + (1 : Nat) ≠ x0 + (1 : Nat) + (1 : Nat) + (1 : Nat) + (1 : Nat) + (1 : Nat) + (1 : Nat) + (1 : Nat) :=
  fun {x0} => linG [x0] [] [] (.nne (.a (.a (.a (.a (.a (.v 0) (.k 1)) (.k 1)) (.k 1)) (.k 1)) (.k 1)) (.a (.a (.a (.a (.a (.a (.a (.v 0) (.k 1)) (.k 1)) (.k 1)) (.k 1)) (.k 1)) (.k 1)) (.k 1))) [0, 1] rfl
theorem om247 : ∀ {x0 x1 x2 : Nat}, (0 : Nat) < x0 → x1 = x2 → x0 ≤ x2 → x0 - (1 : Nat) < x1 := by
  intros; first | decide | lia | omega
theorem om248 : ∀ {x0 : Nat}, x0 + (1 : Nat) + (1 : Nat) + (1 : Nat) + (1 : Nat) + (1 : Nat) + (1 : Nat) ≠ x0 + (1 : Nat) + (1 : Nat) + (1 : Nat) + (1 : Nat) + (1 : Nat) + (1 : Nat) + (1 : Nat) :=
  fun {x0} => linG [x0] [] [] (.nne (.a (.a (.a (.a (.a (.a (.v 0) (.k 1)) (.k 1)) (.k 1)) (.k 1)) (.k 1)) (.k 1)) (.a (.a (.a (.a (.a (.a (.a (.v 0) (.k 1)) (.k 1)) (.k 1)) (.k 1)) (.k 1)) (.k 1)) (.k 1))) [0, 1] rfl
theorem om249 : ∀ {x0 x1 x2 x3 x4 : Nat} {x5 : Prop}, x2 < x0 → x3 < x2 → x4 + (1 : Nat) < x3 ∧ (145 : Nat) < x3 ∧ x1 < x3 ∧ x5 → x0 ≠ x1 :=
  fun {x0} {x1} {x2} {x3} {x4} {x5} => linG [x2, x0, x3, x4, x1] [] [.nl (.v 0) (.v 1), .nl (.v 2) (.v 0), .an (.nl (.a (.v 3) (.k 1)) (.v 2)) (.an (.nl (.k 145) (.v 2)) (.an (.nl (.v 4) (.v 2)) (.pr x5)))] (.nne (.v 1) (.v 4)) [1, 0, 1, 1, 0, 0, 1] rfl
theorem om250 : ∀ {x0 x1 : Nat}, (↑x1 : Int) < (↑x0 : Int) → x1 = (5 : Nat) → (5 : Nat) < x0 :=
  fun {x0} {x1} => linG [x1, x0] [] [.zl (.c (.v 0)) (.c (.v 1)), .ne (.v 0) (.k 5)] (.nl (.k 5) (.v 1)) [1, 1, 0, 1] rfl
theorem om251 : ∀ {x0 : Nat}, (145 : Nat) < x0 → (145 : Nat) ≠ x0 + (1 : Nat) + (1 : Nat) + (1 : Nat) + (1 : Nat) + (1 : Nat) + (1 : Nat) :=
  fun {x0} => linG [x0] [] [.nl (.k 145) (.v 0)] (.nne (.k 145) (.a (.a (.a (.a (.a (.a (.v 0) (.k 1)) (.k 1)) (.k 1)) (.k 1)) (.k 1)) (.k 1))) [0, 1, 1] rfl
theorem om252 : (0 : Int) < (2 : Int) ^ (62 : Nat) :=
  linG [] [] [] (.zl (.k 0) (.k (2^62))) [1] rfl
theorem om253 : ∀ {x0 : Nat}, ((↑x0 : Int) + (1 : Int)).toNat = x0 + (1 : Nat) := by
  intros; first | decide | lia | omega
theorem om254 : ∀ {x0 x1 : Nat}, x0 < x1 → x1 ≤ (5 : Nat) → (0 : Int) + (↑x0 : Int) < (2 : Int) ^ (63 : Nat) :=
  fun {x0} {x1} => linG [x0, x1] [] [.nl (.v 0) (.v 1), .nle (.v 1) (.k 5)] (.zl (.a (.k 0) (.c (.v 0))) (.k (2^63))) [1, 1, 1] rfl
theorem om255 : ∀ {x0 x1 : Nat}, x1 = x0 → ¬(9 : Int) < (↑x1 : Int) → x0 + (1 : Nat) ≤ (10 : Nat) :=
  fun {x0} {x1} => linG [x1, x0] [] [.ne (.v 0) (.v 1), .nzl (.k 9) (.c (.v 0))] (.nle (.a (.v 1) (.k 1)) (.k 10)) [1, 0, 1, 1] rfl
theorem om256 : ∀ {x0 x1 : Nat} {x2 : Prop}, (145 : Nat) < x0 ∧ x1 < x0 ∧ x2 → x0 + (1 : Nat) ≠ (145 : Nat) :=
  fun {x0} {x1} {x2} => linG [x0, x1] [] [.an (.nl (.k 145) (.v 0)) (.an (.nl (.v 1) (.v 0)) (.pr x2))] (.nne (.a (.v 0) (.k 1)) (.k 145)) [1, 0, 1] rfl
theorem om258 : ∀ {x0 : Int}, ¬(2 : Int) < x0 + (1 : Int) + (1 : Int) → (0 : Int) = (↑x0.toNat : Int) := by
  intros; first | decide | lia | omega
theorem om259 : ∀ {x0 : Nat}, x0 + (1 : Nat) + (1 : Nat) + (1 : Nat) ≠ x0 + (1 : Nat) + (1 : Nat) + (1 : Nat) + (1 : Nat) + (1 : Nat) + (1 : Nat) :=
  fun {x0} => linG [x0] [] [] (.nne (.a (.a (.a (.v 0) (.k 1)) (.k 1)) (.k 1)) (.a (.a (.a (.a (.a (.a (.v 0) (.k 1)) (.k 1)) (.k 1)) (.k 1)) (.k 1)) (.k 1))) [0, 1] rfl
theorem om260 : ∀ {x0 x1 x2 : Nat}, x0 ≤ (5 : Nat) * x1 + x2 → x0 + ((0 : Nat) + (1 : Nat)) ≤ (5 : Nat) * x1 + (x2 + (1 : Nat)) :=
  fun {x0} {x1} {x2} => linG [x0, x1, x2] [] [.nle (.v 0) (.a (.m 5 (.v 1)) (.v 2))] (.nle (.a (.v 0) (.a (.k 0) (.k 1))) (.a (.m 5 (.v 1)) (.a (.v 2) (.k 1)))) [1, 1] rfl
theorem om261 : ∀ {x0 : Int} {x1 x2 x3 : Nat}, x0 ≤ (↑x1 : Int) → x1 < x2 → x2 = x3 → x3 < (100 : Nat) → x0 ≤ (100 : Int) :=
  fun {x0} {x1} {x2} {x3} => linG [x1, x2, x3] [x0] [.zle (.v 0) (.c (.v 0)), .nl (.v 0) (.v 1), .ne (.v 1) (.v 2), .nl (.v 2) (.k 100)] (.zle (.v 0) (.k 100)) [1, 1, 1, 1, 0, 1] rfl
theorem om262 : ∀ {x0 x1 x2 x3 : Nat}, x0 ≤ x1 → x1 < x2 → x2 = x3 → x3 < (100 : Nat) → x0 ≤ (100 : Nat) :=
  fun {x0} {x1} {x2} {x3} => linG [x0, x1, x2, x3] [] [.nle (.v 0) (.v 1), .nl (.v 1) (.v 2), .ne (.v 2) (.v 3), .nl (.v 3) (.k 100)] (.nle (.v 0) (.k 100)) [1, 1, 1, 1, 0, 1] rfl
theorem om263 : ∀ {x0 x1 : Nat}, x1 = x0 → (9 : Int) < (↑x1 : Int) → (9 : Nat) < x0 :=
  fun {x0} {x1} => linG [x1, x0] [] [.ne (.v 0) (.v 1), .zl (.k 9) (.c (.v 0))] (.nl (.k 9) (.v 1)) [1, 1, 0, 1] rfl
theorem om264 : ∀ {x0 : Nat}, (145 : Nat) < x0 → (145 : Nat) < x0 + (1 : Nat) :=
  fun {x0} => linG [x0] [] [.nl (.k 145) (.v 0)] (.nl (.k 145) (.a (.v 0) (.k 1))) [1, 1] rfl
theorem om265 : ∀ {x0 : Nat}, x0 = (9 : Nat) ∨ x0 = (32 : Nat) ∨ (97 : Nat) ≤ x0 ∧ x0 ≤ (101 : Nat) → x0 ≠ (92 : Nat) := by
  intros; first | decide | lia | omega
theorem om266 : ∀ {x0 : Nat}, x0 = (9 : Nat) ∨ x0 = (32 : Nat) ∨ (97 : Nat) ≤ x0 ∧ x0 ≤ (101 : Nat) → x0 ≠ (34 : Nat) := by
  intros; first | decide | lia | omega
theorem om267 : ∀ {x0 x1 : Nat}, ¬(9 : Int) < (↑x0 : Int) → x0 = x1 → (9 : Nat) < x1 → False :=
  fun {x0} {x1} => linF [x0, x1] [] [.nzl (.k 9) (.c (.v 0)), .ne (.v 0) (.v 1), .nl (.k 9) (.v 1)]  [1, 0, 1, 1] rfl
theorem om268 : ∀ {x0 x1 x2 : Nat}, x0 = x2 → ¬x1 < x2 → x0 ≤ x1 + (1 : Nat) :=
  fun {x0} {x1} {x2} => linG [x0, x2, x1] [] [.ne (.v 0) (.v 1), .nnl (.v 2) (.v 1)] (.nle (.v 0) (.a (.v 2) (.k 1))) [1, 1, 0, 1] rfl
theorem om269 : ∀ {x0 : Int} {x1 x2 : Nat}, x1 < ((↑x2 : Int) - x0).toNat → x0 + (↑x1 : Int) < (↑x2 : Int) := by
  intros; first | decide | lia | omega
theorem om270 : ∀ {x0 : Nat}, x0 + (1 : Nat) + (1 : Nat) ≠ x0 + (1 : Nat) + (1 : Nat) + (1 : Nat) + (1 : Nat) + (1 : Nat) + (1 : Nat) :=
  fun {x0} => linG [x0] [] [] (.nne (.a (.a (.v 0) (.k 1)) (.k 1)) (.a (.a (.a (.a (.a (.a (.v 0) (.k 1)) (.k 1)) (.k 1)) (.k 1)) (.k 1)) (.k 1))) [0, 1] rfl
theorem om271 : ∀ {x0 : Nat}, (0 : Int) ≤ (↑x0 : Int) :=
  fun {x0} => linG [x0] [] [] (.zle (.k 0) (.c (.v 0))) [1, 1] rfl
theorem om272 : ∀ {x0 : Nat}, x0 + (2 : Nat) < PySem.recursionLimit → x0 < PySem.recursionLimit :=
  fun {x0} => linG [x0, PySem.recursionLimit] [] [.nl (.a (.v 0) (.k 2)) (.v 1)] (.nl (.v 0) (.v 1)) [1, 1] rfl
theorem om273 : ∀ {x0 x1 x2 : Nat}, x0 ≤ x2 → x2 < x1 → x0 < x1 + (1 : Nat) :=
  fun {x0} {x1} {x2} => linG [x0, x2, x1] [] [.nle (.v 0) (.v 1), .nl (.v 1) (.v 2)] (.nl (.v 0) (.a (.v 2) (.k 1))) [1, 1, 1] rfl
theorem om275 : ∀ {x0 : Int}, ¬(0 : Int) < x0 → (0 : Int) = (↑x0.toNat : Int) := by
  intros; first | decide | lia | omega
theorem om276 : ∀ {x0 x1 x2 : Nat}, x0 + (x2 + (1 : Nat)) ≤ (2000 : Nat) → x1 = (1 : Nat) → x0 + x1 + x2 ≤ (2000 : Nat) :=
  fun {x0} {x1} {x2} => linG [x0, x2, x1] [] [.nle (.a (.v 0) (.a (.v 1) (.k 1))) (.k 2000), .ne (.v 2) (.k 1)] (.nle (.a (.a (.v 0) (.v 2)) (.v 1)) (.k 2000)) [1, 1, 1] rfl
theorem om277 : ∀ {x0 : Nat} {x1 : Int}, x1 ≥ (↑x0 : Int) → (↑(x0 + (x1 - (↑x0 : Int) + (1 : Int)).toNat) : Int) = x1 + (1 : Int) := by
  intros; first | decide | lia | omega
theorem om278 : ∀ {x0 : Nat}, x0 + (1 : Nat) ≤ (1000 : Nat) → x0 - (1 : Nat) ≤ (1000 : Nat) := by
  intros; first | decide | lia | omega
theorem om279 : ∀ {x0 x1 x2 : Nat}, x1 = x2 → x0 + (1 : Nat) < x2 → (↑x0 : Int) + (1 : Int) < (↑x1 : Int) :=
  fun {x0} {x1} {x2} => linG [x1, x2, x0] [] [.ne (.v 0) (.v 1), .nl (.a (.v 2) (.k 1)) (.v 1)] (.zl (.a (.c (.v 2)) (.k 1)) (.c (.v 0))) [1, 0, 1, 1] rfl
theorem om280 : ∀ {x0 : Nat}, x0 + (1 : Nat) ≠ x0 + (1 : Nat) + (1 : Nat) + (1 : Nat) + (1 : Nat) + (1 : Nat) + (1 : Nat) :=
  fun {x0} => linG [x0] [] [] (.nne (.a (.v 0) (.k 1)) (.a (.a (.a (.a (.a (.a (.v 0) (.k 1)) (.k 1)) (.k 1)) (.k 1)) (.k 1)) (.k 1))) [0, 1] rfl
theorem om281 : ∀ {x0 x1 : Nat}, x1 = (5 : Nat) → x0 = (5 : Nat) → x0 ≤ x1 :=
  fun {x0} {x1} => linG [x1, x0] [] [.ne (.v 0) (.k 5), .ne (.v 1) (.k 5)] (.nle (.v 1) (.v 0)) [1, 0, 1, 1] rfl
theorem om282 : ∀ {x0 : Nat} {x1 : Int}, ¬x1 < (↑x0 : Int) → (0 : Int) = (↑((↑x0 : Int) - x1).toNat : Int) := by
  intros; first | decide | lia | omega
theorem om283 : ∀ {x0 x1 x2 : Nat}, x0 ≤ (2 : Nat) * x1 → x1 = x2 → x2 ≤ (200 : Nat) → x0 + x1 ≤ (1048576 : Nat) :=
  fun {x0} {x1} {x2} => linG [x0, x1, x2] [] [.nle (.v 0) (.m 2 (.v 1)), .ne (.v 1) (.v 2), .nle (.v 2) (.k 200)] (.nle (.a (.v 0) (.v 1)) (.k 1048576)) [1, 1, 3, 0, 3] rfl
theorem om284 : ∀ {x0 x1 x2 : Nat}, x0 = x2 → ¬x1 < x2 → x0 ≤ x1 :=
  fun {x0} {x1} {x2} => linG [x0, x2, x1] [] [.ne (.v 0) (.v 1), .nnl (.v 2) (.v 1)] (.nle (.v 0) (.v 2)) [1, 1, 0, 1] rfl
theorem om285 : ∀ {x0 x1 : Nat}, x0 + (x1 + (1 : Nat)) + (2 : Nat) < PySem.recursionLimit → x0 < PySem.recursionLimit :=
  fun {x0} {x1} => linG [x0, x1, PySem.recursionLimit] [] [.nl (.a (.a (.v 0) (.a (.v 1) (.k 1))) (.k 2)) (.v 2)] (.nl (.v 0) (.v 2)) [1, 1, 0, 1] rfl
theorem om286 : ∀ {x0 x1 x2 : Int}, x2 < x1 → (1 : Int) + x2 = x0 → (0 : Int) ≤ x2 → (1 : Int) ≤ x0 ∧ x0 ≤ x1 := by
  intros; first | decide | lia | omega
theorem om287 : ∀ {x0 x1 : Nat}, x1 + (1 : Nat) + (1 : Nat) + (1 : Nat) + (1 : Nat) < x0 → x0 ≠ x1 + (1 : Nat) + (1 : Nat) + (1 : Nat) + (1 : Nat) :=
  fun {x0} {x1} => linG [x1, x0] [] [.nl (.a (.a (.a (.a (.v 0) (.k 1)) (.k 1)) (.k 1)) (.k 1)) (.v 1)] (.nne (.v 1) (.a (.a (.a (.a (.v 0) (.k 1)) (.k 1)) (.k 1)) (.k 1))) [1, 0, 1] rfl
theorem om288 : ∀ {x0 x1 : Int}, (1 : Int) ≤ x1 → x0 - x1 ≤ Max.max x0 (0 : Int) := by
  intros; first | decide | lia | omega
theorem om289 : ∀ {x0 x1 : Nat}, x1 + (1 : Nat) + (1 : Nat) + (1 : Nat) + (1 : Nat) + (1 : Nat) + (1 : Nat) + (1 : Nat) < x0 → x0 ≠ x1 + (1 : Nat) + (1 : Nat) + (1 : Nat) :=
  fun {x0} {x1} => linG [x1, x0] [] [.nl (.a (.a (.a (.a (.a (.a (.a (.v 0) (.k 1)) (.k 1)) (.k 1)) (.k 1)) (.k 1)) (.k 1)) (.k 1)) (.v 1)] (.nne (.v 1) (.a (.a (.a (.v 0) (.k 1)) (.k 1)) (.k 1))) [1, 0, 1] rfl
theorem om290 : ∀ {x0 : Nat}, x0 + (1 : Nat) + (1 : Nat) + (1 : Nat) + (1 : Nat) + (1 : Nat) ≠ x0 + (1 : Nat) + (1 : Nat) + (1 : Nat) + (1 : Nat) + (1 : Nat) + (1 : Nat) :=
  fun {x0} => linG [x0] [] [] (.nne (.a (.a (.a (.a (.a (.v 0) (.k 1)) (.k 1)) (.k 1)) (.k 1)) (.k 1)) (.a (.a (.a (.a (.a (.a (.v 0) (.k 1)) (.k 1)) (.k 1)) (.k 1)) (.k 1)) (.k 1))) [0, 1] rfl
theorem om291 : ∀ {x0 x1 x2 : Nat}, x0 = x1 → x1 = x2 + (1 : Nat) → x2 + (1 : Nat) ≤ (100 : Nat) → x0 ≤ (16777216 : Nat) :=
  fun {x0} {x1} {x2} => linG [x0, x1, x2] [] [.ne (.v 0) (.v 1), .ne (.v 1) (.a (.v 2) (.k 1)), .nle (.a (.v 2) (.k 1)) (.k 100)] (.nle (.v 0) (.k 16777216)) [1, 1, 0, 1, 0, 1] rfl
theorem om292 : ∀ {x0 x1 x2 : Nat}, x0 = x1 → x1 + (x2 + (1 : Nat)) = (12 : Nat) → (↑x0 : Int) < (2 : Int) ^ (63 : Nat) :=
  fun {x0} {x1} {x2} => linG [x0, x1, x2] [] [.ne (.v 0) (.v 1), .ne (.a (.v 1) (.a (.v 2) (.k 1))) (.k 12)] (.zl (.c (.v 0)) (.k (2^63))) [1, 1, 0, 1, 0, 1] rfl
theorem om293 : ∀ {x0 x1 x2 : Nat} {x3 : Prop}, x1 + (1 : Nat) < x0 ∧ (145 : Nat) < x0 ∧ x2 < x0 ∧ x3 → x0 ≠ (145 : Nat) :=
  fun {x0} {x1} {x2} {x3} => linG [x1, x0, x2] [] [.an (.nl (.a (.v 0) (.k 1)) (.v 1)) (.an (.nl (.k 145) (.v 1)) (.an (.nl (.v 2) (.v 1)) (.pr x3)))] (.nne (.v 1) (.k 145)) [1, 0, 0, 1] rfl
theorem om294 : ∀ {x0 x1 : Nat}, x0 = (1 : Nat) → x1 ≤ (1000 : Nat) → (PySem.Str.ofString "").length = (0 : Nat) → (PySem.Str.ofString "").length + x0 + x1 ≤ (2000 : Nat) := by
  intros; first | decide | lia | omega
theorem om295 : ∀ {x0 x1 : Nat}, x1 < x0 → x0 - (1 : Nat) < x0 := by
  intros; first | decide | lia | omega
theorem om296 : ∀ {x0 x1 : Nat}, x0 < x1 ∧ x0 < (5 : Nat) → x0 + (1 : Nat) ≤ (5 : Nat) :=
  fun {x0} {x1} => linG [x0, x1] [] [.an (.nl (.v 0) (.v 1)) (.nl (.v 0) (.k 5))] (.nle (.a (.v 0) (.k 1)) (.k 5)) [1, 0, 1] rfl
theorem om297 : ∀ {x0 : Int} {x1 : Nat}, x0 ≤ (100 : Int) → x0 - (↑x1 : Int) + (1 : Int) < (2 : Int) ^ (63 : Nat) :=
  fun {x0} {x1} => linG [x1] [x0] [.zle (.v 0) (.k 100)] (.zl (.a (.s (.v 0) (.c (.v 0))) (.k 1)) (.k (2^63))) [1, 1, 1] rfl
theorem om298 : ∀ {x0 : Int} {x1 x2 x3 : Nat}, x0 + (↑x1 : Int) + (↑x2 : Int) + (↑x2 : Int) + (↑x3 : Int) = x0 + (↑x1 : Int) + (↑((2 : Nat) * x2 + x3) : Int) :=
  fun {x0} {x1} {x2} {x3} => linZ [x1, x2, x3] [x0] [] (.a (.a (.a (.a (.v 0) (.c (.v 0))) (.c (.v 1))) (.c (.v 1))) (.c (.v 2))) (.a (.a (.v 0) (.c (.v 0))) (.c (.a (.m 2 (.v 1)) (.v 2)))) [1] [1] rfl rfl
theorem om299 : ∀ {x0 : Nat}, (0 : Int) ≤ (0 : Int) + (↑x0 : Int) + (3 : Int) :=
  fun {x0} => linG [x0] [] [] (.zle (.k 0) (.a (.a (.k 0) (.c (.v 0))) (.k 3))) [1, 1] rfl
theorem om300 : ∀ {x0 : Nat}, x0 = (5 : Nat) → x0 + ((0 : Nat) + (1 : Nat)) ≤ (16777216 : Nat) :=
  fun {x0} => linG [x0] [] [.ne (.v 0) (.k 5)] (.nle (.a (.v 0) (.a (.k 0) (.k 1))) (.k 16777216)) [1, 1] rfl
theorem om301 : ∀ {x0 x1 : Nat}, x0 < x1 → x0 ≠ x1 + (1 : Nat) + (1 : Nat) + (1 : Nat) + (1 : Nat) :=
  fun {x0} {x1} => linG [x0, x1] [] [.nl (.v 0) (.v 1)] (.nne (.v 0) (.a (.a (.a (.a (.v 1) (.k 1)) (.k 1)) (.k 1)) (.k 1))) [0, 1, 1] rfl
theorem om302 : ∀ {x0 x1 : Nat}, x0 + (x1 + (1 : Nat)) = (12 : Nat) → x0 + (1 : Nat) + x1 = (12 : Nat) :=
  fun {x0} {x1} => linE [x0, x1] [] [.ne (.a (.v 0) (.a (.v 1) (.k 1))) (.k 12)] (.a (.a (.v 0) (.k 1)) (.v 1)) (.k 12) [1, 1] [1, 0, 1] rfl rfl
theorem om303 : ∀ {x0 : Int} {x1 : Nat}, x0 ≤ (100 : Int) → x0 - (↑x1 : Int) + (1 : Int) ≤ (↑(1048576 : Nat) : Int) :=
  fun {x0} {x1} => linG [x1] [x0] [.zle (.v 0) (.k 100)] (.zle (.a (.s (.v 0) (.c (.v 0))) (.k 1)) (.c (.k 1048576))) [1, 1, 1] rfl
theorem om304 : ∀ {x0 : Int}, x0 < (100 : Int) → (1 : Nat) + x0.toNat ≤ (100 : Nat) := by
  intros; first | decide | lia | omega
theorem om305 : ∀ {x0 : Nat}, x0 ≤ (130 : Nat) → x0 ≤ (1000 : Nat) :=
  fun {x0} => linG [x0] [] [.nle (.v 0) (.k 130)] (.nle (.v 0) (.k 1000)) [1, 1] rfl
theorem om306 : ∀ {x0 x1 x2 : Nat}, x0 = x1 → x1 + (x2 + (1 : Nat)) = (12 : Nat) → x0 ≤ (16777216 : Nat) :=
  fun {x0} {x1} {x2} => linG [x0, x1, x2] [] [.ne (.v 0) (.v 1), .ne (.a (.v 1) (.a (.v 2) (.k 1))) (.k 12)] (.nle (.v 0) (.k 16777216)) [1, 1, 0, 1, 0, 1] rfl
theorem om307 : ∀ {x0 : Nat}, x0 ≤ (130 : Nat) → x0 ≤ (400 : Nat) :=
  fun {x0} => linG [x0] [] [.nle (.v 0) (.k 130)] (.nle (.v 0) (.k 400)) [1, 1] rfl
theorem om308 : ∀ {x0 : Nat}, (1 : Nat) ≤ x0 → (0 : Int) ≤ (↑x0 : Int) - (1 : Int) :=
  fun {x0} => linG [x0] [] [.nle (.k 1) (.v 0)] (.zle (.k 0) (.s (.c (.v 0)) (.k 1))) [1, 1] rfl
theorem om309 : ∀ {x0 x1 x2 x3 : Nat} {x4 : Prop}, (x1 ≠ x0 ∧ x1 ≠ x2 ∧ x1 ≠ x3) ∧ x4 → x0 ≠ x1 := by
  intros; first | decide | lia | omega
theorem om310 : ∀ {x0 : Int}, x0 < (5 : Int) → x0.toNat < (5 : Nat) := by
  intros; first | decide | lia | omega
theorem om311 : ∀ {x0 : Nat}, x0 ≤ (60 : Nat) → x0 ≤ (200 : Nat) :=
  fun {x0} => linG [x0] [] [.nle (.v 0) (.k 60)] (.nle (.v 0) (.k 200)) [1, 1] rfl
theorem om313 : ∀ {x0 x1 : Nat}, x0 < x1 → x0 + (1 : Nat) ≤ x1 :=
  fun {x0} {x1} => linG [x0, x1] [] [.nl (.v 0) (.v 1)] (.nle (.a (.v 0) (.k 1)) (.v 1)) [1, 1] rfl
theorem om314 : ∀ {x0 x1 x2 : Int} {x3 : Nat}, x0 - x1 ≤ (↑(x3 + (1 : Nat)) : Int) → (1 : Int) ≤ x2 → x0 - (x1 + (x2 + (0 : Int))) ≤ (↑x3 : Int) :=
  fun {x0} {x1} {x2} {x3} => linG [x3] [x0, x1, x2] [.zle (.s (.v 0) (.v 1)) (.c (.a (.v 0) (.k 1))), .zle (.k 1) (.v 2)] (.zle (.s (.v 0) (.a (.v 1) (.a (.v 2) (.k 0)))) (.c (.v 0))) [1, 1, 1] rfl
theorem om315 : ∀ {x0 x1 x2 : Nat}, x1 ≤ (2 : Nat) * x2 → x0 ≤ (2 : Nat) → x0 + x1 ≤ (2 : Nat) * (x2 + (1 : Nat)) :=
  fun {x0} {x1} {x2} => linG [x1, x2, x0] [] [.nle (.v 0) (.m 2 (.v 1)), .nle (.v 2) (.k 2)] (.nle (.a (.v 2) (.v 0)) (.m 2 (.a (.v 1) (.k 1)))) [1, 1, 1] rfl
theorem om316 : ∀ {x0 x1 : Nat}, x0 < x1 ∧ x0 < (5 : Nat) → x0 ≤ (4 : Nat) :=
  fun {x0} {x1} => linG [x0, x1] [] [.an (.nl (.v 0) (.v 1)) (.nl (.v 0) (.k 5))] (.nle (.v 0) (.k 4)) [1, 0, 1] rfl
theorem om317 : ∀ {x0 x1 : Int}, (0 : Int) ≤ x0 * x1 ∧ x0 * x1 ≤ (40 : Int) * (5 : Int) → -(2 : Int) ^ (63 : Nat) ≤ x0 * x1 := by
  intros; first | decide | lia | omega
theorem om318 : ∀ {x0 x1 : Int}, (0 : Int) ≤ x0 ∧ x0 ≤ (5 : Int) ∧ (0 : Int) ≤ x1 ∧ x1 ≤ (5 : Int) → -(2 : Int) ^ (63 : Nat) ≤ x0 :=
  fun {x0} {x1} => linG [] [x0, x1] [.an (.zle (.k 0) (.v 0)) (.an (.zle (.v 0) (.k 5)) (.an (.zle (.k 0) (.v 1)) (.zle (.v 1) (.k 5))))] (.zle (.k (-(2:Int)^63)) (.v 0)) [1, 1] rfl
theorem om319 : ∀ {x0 x1 x2 : Nat}, x1 = x2 → x0 < x2 → x0 < x1 :=
  fun {x0} {x1} {x2} => linG [x1, x2, x0] [] [.ne (.v 0) (.v 1), .nl (.v 2) (.v 1)] (.nl (.v 2) (.v 0)) [1, 0, 1, 1] rfl
theorem om320 : ∀ {x0 : Nat}, (↑(x0 - (1 : Nat)) : Int).toNat = x0 - (1 : Nat) := by
  intros; first | decide | lia | omega
theorem om321 : ∀ {x0 : Nat}, x0 ≤ (100 : Nat) → x0 ≤ (1000 : Nat) :=
  fun {x0} => linG [x0] [] [.nle (.v 0) (.k 100)] (.nle (.v 0) (.k 1000)) [1, 1] rfl
theorem om322 : ∀ {x0 : Int}, (1 : Int) ≤ x0 ∧ x0 ≤ (40 : Int) → (0 : Int) ≤ x0 :=
  fun {x0} => linG [] [x0] [.an (.zle (.k 1) (.v 0)) (.zle (.v 0) (.k 40))] (.zle (.k 0) (.v 0)) [1, 1] rfl
theorem om323 : ∀ {x0 : Int}, (1 : Int) ≤ x0 ∧ x0 ≤ (40 : Int) → -(2 : Int) ^ (64 : Nat) < x0 :=
  fun {x0} => linG [] [x0] [.an (.zle (.k 1) (.v 0)) (.zle (.v 0) (.k 40))] (.zl (.k (-(2:Int)^64)) (.v 0)) [1, 1] rfl
theorem om325 : ∀ {x0 : Nat}, x0 ≤ (1000 : Nat) → x0 - (1 : Nat) ≤ (1000 : Nat) := by
  intros; first | decide | lia | omega
theorem om327 : ∀ {x0 : Nat}, ¬(0 : Int) < (↑x0 : Int) → (0 : Int) = (↑x0 : Int) :=
  fun {x0} => linZ [x0] [] [.nzl (.k 0) (.c (.v 0))] (.k 0) (.c (.v 0)) [1, 0, 1] [1, 1] rfl rfl
theorem om328 : ∀ {x0 : Nat}, x0 ≤ (6 : Nat) → x0 ≤ (100000 : Nat) :=
  fun {x0} => linG [x0] [] [.nle (.v 0) (.k 6)] (.nle (.v 0) (.k 100000)) [1, 1] rfl
theorem om329 : ∀ {x0 : Nat}, x0 ≤ (5 : Nat) → (↑x0 : Int) - (1 : Int) ≤ (4 : Int) :=
  fun {x0} => linG [x0] [] [.nle (.v 0) (.k 5)] (.zle (.s (.c (.v 0)) (.k 1)) (.k 4)) [1, 1] rfl
theorem om330 : ∀ {x0 x1 x2 x3 : Nat} {x4 : Prop}, (x1 ≠ x2 ∧ x1 ≠ x0 ∧ x1 ≠ x3) ∧ x4 → x0 ≠ x1 := by
  intros; first | decide | lia | omega
theorem om331 : ∀ {x0 x1 : Nat}, x0 ≤ x1 → x0 + ((0 : Nat) + (1 : Nat)) ≤ x1 + (1 : Nat) :=
  fun {x0} {x1} => linG [x0, x1] [] [.nle (.v 0) (.v 1)] (.nle (.a (.v 0) (.a (.k 0) (.k 1))) (.a (.v 1) (.k 1))) [1, 1] rfl
theorem om332 : ∀ {x0 : Nat}, x0 + (200 : Nat) < PySem.cLine → x0 + (3 : Nat) + (120 : Nat) < PySem.cLine :=
  fun {x0} => linG [x0, PySem.cLine] [] [.nl (.a (.v 0) (.k 200)) (.v 1)] (.nl (.a (.a (.v 0) (.k 3)) (.k 120)) (.v 1)) [1, 1] rfl
theorem om333 : ∀ {x0 x1 x2 : Nat}, x0 ≤ x1 → x1 = x2 → x2 < (100 : Nat) → x0 ≤ (100 : Nat) :=
  fun {x0} {x1} {x2} => linG [x0, x1, x2] [] [.nle (.v 0) (.v 1), .ne (.v 1) (.v 2), .nl (.v 2) (.k 100)] (.nle (.v 0) (.k 100)) [1, 1, 1, 0, 1] rfl
theorem om334 : ∀ {x0 x1 x2 x3 : Nat}, x2 < x1 → x3 < x2 → x0 < x3 → x0 < x1 :=
  fun {x0} {x1} {x2} {x3} => linG [x2, x1, x3, x0] [] [.nl (.v 0) (.v 1), .nl (.v 2) (.v 0), .nl (.v 3) (.v 2)] (.nl (.v 3) (.v 1)) [1, 1, 1, 1] rfl
theorem om335 : ∀ {x0 x1 : Nat}, (↑x0 : Int) * ((↑x1 : Int) - (1 : Int)) ≤ (10 : Int) * (4 : Int) → (↑x0 : Int) * ((↑x1 : Int) - (1 : Int)) > (1 : Int) → (1 : Int) ≤ (↑x0 : Int) * ((↑x1 : Int) - (1 : Int)) ∧ (↑x0 : Int) * ((↑x1 : Int) - (1 : Int)) ≤ (40 : Int) := by
  intros; first | decide | lia | omega
theorem om336 : ∀ {x0 : Int}, (0 : Int) ≤ x0 → x0 < (2 : Int) → x0 = (0 : Int) ∨ x0 = (1 : Int) := by
  intros; first | decide | lia | omega
theorem om337 : ∀ {x0 : Int}, (1 : Int) ≤ x0 ∧ x0 ≤ (40 : Int) → x0 ≤ (40 : Int) :=
  fun {x0} => linG [] [x0] [.an (.zle (.k 1) (.v 0)) (.zle (.v 0) (.k 40))] (.zle (.v 0) (.k 40)) [1, 0, 1] rfl
theorem om338 : ∀ {x0 : Int} {x1 x2 : Nat}, x0 ≤ (↑x1 : Int) → x1 = x2 → x2 < (100 : Nat) → x0 ≤ (↑(100 : Nat) : Int) :=
  fun {x0} {x1} {x2} => linG [x1, x2] [x0] [.zle (.v 0) (.c (.v 0)), .ne (.v 0) (.v 1), .nl (.v 1) (.k 100)] (.zle (.v 0) (.c (.k 100))) [1, 1, 1, 0, 1] rfl
theorem om339 : ∀ {x0 : Int}, (1 : Int) ≤ x0 ∧ x0 ≤ (40 : Int) → x0 < (2 : Int) ^ (64 : Nat) :=
  fun {x0} => linG [] [x0] [.an (.zle (.k 1) (.v 0)) (.zle (.v 0) (.k 40))] (.zl (.v 0) (.k (2^64))) [1, 0, 1] rfl
theorem om340 : ∀ {x0 : Nat}, x0 + (6 : Nat) < PySem.recursionLimit → x0 + (1 : Nat) + (4 : Nat) < PySem.recursionLimit :=
  fun {x0} => linG [x0, PySem.recursionLimit] [] [.nl (.a (.v 0) (.k 6)) (.v 1)] (.nl (.a (.a (.v 0) (.k 1)) (.k 4)) (.v 1)) [1, 1] rfl
theorem om341 : ∀ {x0 : Nat}, x0 ≤ (1000 : Nat) → x0 ≤ (16777216 : Nat) :=
  fun {x0} => linG [x0] [] [.nle (.v 0) (.k 1000)] (.nle (.v 0) (.k 16777216)) [1, 1] rfl
theorem om342 : ∀ {x0 : Int}, (0 : Int) ≤ x0 ∧ x0 ≤ (5 : Int) → -(2 : Int) ^ (62 : Nat) ≤ x0 + (1 : Int) :=
  fun {x0} => linG [] [x0] [.an (.zle (.k 0) (.v 0)) (.zle (.v 0) (.k 5))] (.zle (.k (-(2:Int)^62)) (.a (.v 0) (.k 1))) [1, 1] rfl
theorem om343 : ∀ {x0 x1 x2 : Nat}, x0 < x2 - (1 : Nat) → x2 - (1 : Nat) < x1 → x0 < x1 := by
  intros; first | decide | lia | omega
theorem om344 : ∀ {x0 x1 : Nat}, -(↑x0 : Int) ≤ (↑x1 : Int) := by
  intros; first | decide | lia | omega
theorem om346 : ∀ {x0 : Nat}, x0 ≤ (1000 : Nat) → (↑(x0 + (1 : Nat)) : Int) < (2 : Int) ^ (63 : Nat) :=
  fun {x0} => linG [x0] [] [.nle (.v 0) (.k 1000)] (.zl (.c (.a (.v 0) (.k 1))) (.k (2^63))) [1, 1] rfl
theorem om347 : ∀ {x0 x1 x2 x3 : Nat} {x4 : Prop}, (x1 ≠ x2 ∧ x1 ≠ x3 ∧ x1 ≠ x0) ∧ x4 → x0 ≠ x1 := by
  intros; first | decide | lia | omega
theorem om348 : ∀ {x0 x1 x2 : Nat}, x0 + (x1 + (1 : Nat)) = x2 → x0 + (1 : Nat) + x1 = x2 :=
  fun {x0} {x1} {x2} => linE [x0, x1, x2] [] [.ne (.a (.v 0) (.a (.v 1) (.k 1))) (.v 2)] (.a (.a (.v 0) (.k 1)) (.v 1)) (.v 2) [1, 1] [1, 0, 1] rfl rfl
theorem om349 : ∀ {x0 : Nat}, x0 + (1 : Nat) + (1 : Nat) + (1 : Nat) + (1 : Nat) + (1 : Nat) + (1 : Nat) + (1 : Nat) ≠ x0 + (1 : Nat) + (1 : Nat) + (1 : Nat) :=
  fun {x0} => linG [x0] [] [] (.nne (.a (.a (.a (.a (.a (.a (.a (.v 0) (.k 1)) (.k 1)) (.k 1)) (.k 1)) (.k 1)) (.k 1)) (.k 1)) (.a (.a (.a (.v 0) (.k 1)) (.k 1)) (.k 1))) [1] rfl
theorem om350 : ∀ {x0 : Nat}, x0 + (20 : Nat) * (0 : Nat) + (200 : Nat) < PySem.cLine → x0 + (3 : Nat) + (64 : Nat) < PySem.cLine :=
  fun {x0} => linG [x0, PySem.cLine] [] [.nl (.a (.a (.v 0) (.m 20 (.k 0))) (.k 200)) (.v 1)] (.nl (.a (.a (.v 0) (.k 3)) (.k 64)) (.v 1)) [1, 1] rfl
theorem om351 : ∀ {x0 : Nat}, (1 : Nat) ≤ x0 → x0 - (1 : Nat) ≠ x0 := by
  intros; first | decide | lia | omega
theorem om352 : ∀ {x0 x1 : Int}, x0 ≤ x1 → (x0 - (1 : Int)).toNat ≤ (x1 - (1 : Int)).toNat := by
  intros; first | decide | lia | omega
theorem om353 : ∀ {x0 x1 x2 x3 x4 x5 x6 : Nat} {x7 : Prop}, x2 < x0 → x3 < x2 ∧ x4 < x2 ∧ x5 < x2 ∧ x6 + (1 : Nat) < x2 ∧ (145 : Nat) < x2 ∧ x1 < x2 ∧ x7 → x0 ≠ x1 :=
  fun {x0} {x1} {x2} {x3} {x4} {x5} {x6} {x7} => linG [x2, x0, x3, x4, x5, x6, x1] [] [.nl (.v 0) (.v 1), .an (.nl (.v 2) (.v 0)) (.an (.nl (.v 3) (.v 0)) (.an (.nl (.v 4) (.v 0)) (.an (.nl (.a (.v 5) (.k 1)) (.v 0)) (.an (.nl (.k 145) (.v 0)) (.an (.nl (.v 6) (.v 0)) (.pr x7))))))] (.nne (.v 1) (.v 6)) [1, 0, 1, 0, 0, 0, 0, 0, 1] rfl
theorem om354 : ∀ {x0 x1 : Int}, (0 : Int) ≤ x0 * x1 ∧ x0 * x1 ≤ (40 : Int) * (5 : Int) → x0 * x1 ≤ (↑(1048576 : Nat) : Int) := by
  intros; first | decide | lia | omega
theorem om355 : ∀ {x0 x1 : Int}, (0 : Int) ≤ x0 ∧ x0 ≤ (5 : Int) ∧ (0 : Int) ≤ x1 ∧ x1 ≤ (5 : Int) → x0 ≤ (↑(4095 : Nat) : Int) :=
  fun {x0} {x1} => linG [] [x0, x1] [.an (.zle (.k 0) (.v 0)) (.an (.zle (.v 0) (.k 5)) (.an (.zle (.k 0) (.v 1)) (.zle (.v 1) (.k 5))))] (.zle (.v 0) (.c (.k 4095))) [1, 0, 1] rfl
theorem om356 : ∀ {x0 x1 : Nat}, x0 = x1 → x1 + (1 : Nat) ≤ (1000 : Nat) → x0 ≤ (1000 : Nat) :=
  fun {x0} {x1} => linG [x0, x1] [] [.ne (.v 0) (.v 1), .nle (.a (.v 1) (.k 1)) (.k 1000)] (.nle (.v 0) (.k 1000)) [1, 1, 0, 1] rfl
theorem om357 : ∀ {x0 x1 x2 x3 x4 x5 x6 : Nat} {x7 : Prop}, x2 < x0 → x3 < x2 ∧ x4 < x2 ∧ x1 < x2 ∧ x5 + (1 : Nat) < x2 ∧ (145 : Nat) < x2 ∧ x6 < x2 ∧ x7 → x0 ≠ x1 :=
  fun {x0} {x1} {x2} {x3} {x4} {x5} {x6} {x7} => linG [x2, x0, x3, x4, x1, x5, x6] [] [.nl (.v 0) (.v 1), .an (.nl (.v 2) (.v 0)) (.an (.nl (.v 3) (.v 0)) (.an (.nl (.v 4) (.v 0)) (.an (.nl (.a (.v 5) (.k 1)) (.v 0)) (.an (.nl (.k 145) (.v 0)) (.an (.nl (.v 6) (.v 0)) (.pr x7))))))] (.nne (.v 1) (.v 4)) [1, 0, 1, 0, 0, 1] rfl
theorem om358 : ∀ {x0 : Nat}, x0 ≤ (1000 : Nat) → (PySem.Str.ofString "\n\n").length = (2 : Nat) → x0 + (PySem.Str.ofString "\n\n").length ≤ (16777216 : Nat) := by
  intros; first | decide | lia | omega
theorem om360 : ∀ {x0 x1 : Nat}, x0 = x1 → x1 + (1 : Nat) ≤ (1000 : Nat) → x0 ≤ (1000000 : Nat) :=
  fun {x0} {x1} => linG [x0, x1] [] [.ne (.v 0) (.v 1), .nle (.a (.v 1) (.k 1)) (.k 1000)] (.nle (.v 0) (.k 1000000)) [1, 1, 0, 1] rfl
theorem om361 : ∀ {x0 : Nat}, x0 ≤ (130 : Nat) → (PySem.Str.ofString "\"").length = (1 : Nat) → (PySem.Str.ofString "\"").length + x0 + (PySem.Str.ofString "\"").length ≤ (132 : Nat) := by
  intros; first | decide | lia | omega
theorem om362 : ∀ {x0 : Nat}, x0 ≤ (400 : Nat) → (PySem.Str.ofString "\"").length = (1 : Nat) → (PySem.Str.ofString "\"").length + x0 + (PySem.Str.ofString "\"").length ≤ (16777216 : Nat) := by
  intros; first | decide | lia | omega
theorem om363 : ∀ {x0 x1 : Int}, (0 : Int) ≤ x1 ∧ x1 ≤ (5 : Int) ∧ (0 : Int) ≤ x0 ∧ x0 ≤ (5 : Int) → (0 : Int) ≤ x0 :=
  fun {x0} {x1} => linG [] [x1, x0] [.an (.zle (.k 0) (.v 0)) (.an (.zle (.v 0) (.k 5)) (.an (.zle (.k 0) (.v 1)) (.zle (.v 1) (.k 5))))] (.zle (.k 0) (.v 1)) [1, 0, 0, 1] rfl
theorem om364 : ∀ {x0 x1 : Nat}, x0 + (x1 + (1 : Nat)) ≤ (100 : Nat) → x0 + (1 : Nat) + x1 ≤ (100 : Nat) :=
  fun {x0} {x1} => linG [x0, x1] [] [.nle (.a (.v 0) (.a (.v 1) (.k 1))) (.k 100)] (.nle (.a (.a (.v 0) (.k 1)) (.v 1)) (.k 100)) [1, 1] rfl
theorem om365 : ∀ {x0 x1 x2 x3 : Nat} {x4 : Prop}, x2 < x1 ∧ x3 < x1 ∧ x0 < x1 ∧ x4 → x0 ≠ x1 :=
  fun {x0} {x1} {x2} {x3} {x4} => linG [x2, x1, x3, x0] [] [.an (.nl (.v 0) (.v 1)) (.an (.nl (.v 2) (.v 1)) (.an (.nl (.v 3) (.v 1)) (.pr x4)))] (.nne (.v 3) (.v 1)) [0, 1, 0, 0, 1] rfl
theorem om367 : ∀ {x0 x1 : Int}, (0 : Int) ≤ x0 ∧ x0 ≤ (5 : Int) ∧ (0 : Int) ≤ x1 ∧ x1 ≤ (5 : Int) → x0 ≤ (↑(5 : Nat) : Int) :=
  fun {x0} {x1} => linG [] [x0, x1] [.an (.zle (.k 0) (.v 0)) (.an (.zle (.v 0) (.k 5)) (.an (.zle (.k 0) (.v 1)) (.zle (.v 1) (.k 5))))] (.zle (.v 0) (.c (.k 5))) [1, 0, 1] rfl
theorem om368 : ∀ {x0 x1 x2 x3 : Nat} {x4 : Prop}, x2 < x1 ∧ x0 < x1 ∧ x3 < x1 ∧ x4 → x0 ≠ x1 :=
  fun {x0} {x1} {x2} {x3} {x4} => linG [x2, x1, x0, x3] [] [.an (.nl (.v 0) (.v 1)) (.an (.nl (.v 2) (.v 1)) (.an (.nl (.v 3) (.v 1)) (.pr x4)))] (.nne (.v 2) (.v 1)) [0, 1, 0, 1] rfl
theorem om369 : ∀ {x0 : Int}, (-1 : Int) ≤ x0 ∧ x0 ≤ (100 : Int) → -(2 : Int) ^ (62 : Nat) ≤ x0 + (1 : Int) + (1 : Int) := by
  intros; first | decide | lia | omega
theorem om370 : ∀ {x0 x1 x2 x3 : Nat}, x1 ≤ x2 * x3 → x0 ≤ x2 → x0 + x1 ≤ x2 * x3 + x2 := by
  intros; first | decide | lia | omega
theorem om371 : ∀ {x0 : Int}, (0 : Int) ≤ x0 ∧ x0 ≤ (5 : Int) → x0 + (1 : Int) < (2 : Int) ^ (62 : Nat) :=
  fun {x0} => linG [] [x0] [.an (.zle (.k 0) (.v 0)) (.zle (.v 0) (.k 5))] (.zl (.a (.v 0) (.k 1)) (.k (2^62))) [1, 0, 1] rfl
theorem om372 : ∀ {x0 x1 x2 : Nat}, x0 = x1 → x1 + x2 ≤ (100 : Nat) → x0 ≤ (16777216 : Nat) :=
  fun {x0} {x1} {x2} => linG [x0, x1, x2] [] [.ne (.v 0) (.v 1), .nle (.a (.v 1) (.v 2)) (.k 100)] (.nle (.v 0) (.k 16777216)) [1, 1, 0, 1, 1] rfl
theorem om373 : ∀ {x0 : Nat}, (0 : Nat) < x0 → -(↑x0 : Int) ≤ (↑x0 : Int) - (1 : Int) := by
  intros; first | decide | lia | omega
theorem om374 : ∀ {x0 x1 x2 x3 : Nat} {x4 : Prop}, x0 < x1 ∧ x2 < x1 ∧ x3 < x1 ∧ x4 → x0 ≠ x1 :=
  fun {x0} {x1} {x2} {x3} {x4} => linG [x0, x1, x2, x3] [] [.an (.nl (.v 0) (.v 1)) (.an (.nl (.v 2) (.v 1)) (.an (.nl (.v 3) (.v 1)) (.pr x4)))] (.nne (.v 0) (.v 1)) [0, 1, 1] rfl
theorem om375 : ∀ {x0 : Nat}, x0 ≤ (1000 : Nat) → (PySem.Str.ofString "").length = (0 : Nat) → (PySem.Str.ofString "").length + x0 ≤ (2000 : Nat) := by
  intros; first | decide | lia | omega
theorem om376 : ∀ {x0 : Nat}, x0 ≤ (1 : Nat) → (PySem.Str.ofString "").length = (0 : Nat) → (PySem.Str.ofString "").length + x0 ≤ (16777216 : Nat) := by
  intros; first | decide | lia | omega
theorem om377 : ∀ {x0 : Nat}, x0 + (1 : Nat) + (1 : Nat) + (1 : Nat) + (1 : Nat) + (1 : Nat) + (1 : Nat) ≠ x0 + (1 : Nat) + (1 : Nat) + (1 : Nat) :=
  fun {x0} => linG [x0] [] [] (.nne (.a (.a (.a (.a (.a (.a (.v 0) (.k 1)) (.k 1)) (.k 1)) (.k 1)) (.k 1)) (.k 1)) (.a (.a (.a (.v 0) (.k 1)) (.k 1)) (.k 1))) [1] rfl
theorem om378 : ∀ {x0 : Nat}, x0 + (1 : Nat) + (1 : Nat) + (1 : Nat) + (1 : Nat) + (1 : Nat) + (1 : Nat) + (1 : Nat) ≠ x0 + (1 : Nat) + (1 : Nat) :=
  fun {x0} => linG [x0] [] [] (.nne (.a (.a (.a (.a (.a (.a (.a (.v 0) (.k 1)) (.k 1)) (.k 1)) (.k 1)) (.k 1)) (.k 1)) (.k 1)) (.a (.a (.v 0) (.k 1)) (.k 1))) [1] rfl
theorem om379 : ∀ {x0 x1 : Int}, (1 : Int) + x1 = x0 → (0 : Int) ≤ x1 → (0 : Int) < x0 :=
  fun {x0} {x1} => linG [] [x1, x0] [.ze (.a (.k 1) (.v 0)) (.v 1), .zle (.k 0) (.v 0)] (.zl (.k 0) (.v 1)) [1, 1, 0, 1] rfl
theorem om380 : ∀ {x0 : Int} {x1 : Nat}, (1 : Int) ≤ x0 → (0 : Int) ≤ x0 + (↑x1 : Int) :=
  fun {x0} {x1} => linG [x1] [x0] [.zle (.k 1) (.v 0)] (.zle (.k 0) (.a (.v 0) (.c (.v 0)))) [1, 1, 1] rfl
theorem om381 : ∀ {x0 : Nat}, -(2 : Int) ^ (62 : Nat) ≤ (↑x0 : Int) - (1 : Int) :=
  fun {x0} => linG [x0] [] [] (.zle (.k (-(2:Int)^62)) (.s (.c (.v 0)) (.k 1))) [1, 1] rfl
theorem om382 : ∀ {x0 x1 : Nat}, x0 < x1 - (1 : Nat) → x0 < x1 := by
  intros; first | decide | lia | omega
theorem om383 : ∀ {x0 : Nat}, x0 < (3 : Nat) → (0 : Int) + (↑x0 : Int) < (2 : Int) ^ (63 : Nat) :=
  fun {x0} => linG [x0] [] [.nl (.v 0) (.k 3)] (.zl (.a (.k 0) (.c (.v 0))) (.k (2^63))) [1, 1] rfl
theorem om384 : ∀ {x0 : Nat}, x0 ≤ (130 : Nat) → (PySem.Str.ofString "\n\n").length = (2 : Nat) → x0 + (PySem.Str.ofString "\n\n").length ≤ (132 : Nat) := by
  intros; first | decide | lia | omega
theorem om386 : ∀ {x0 : Nat}, x0 ≤ (10 : Nat) → x0 ≤ (4095 : Nat) :=
  fun {x0} => linG [x0] [] [.nle (.v 0) (.k 10)] (.nle (.v 0) (.k 4095)) [1, 1] rfl
theorem om387 : ∀ {x0 x1 x2 x3 : Nat} {x4 : Prop}, x2 < x0 → x3 + (1 : Nat) < x2 ∧ (145 : Nat) < x2 ∧ x1 < x2 ∧ x4 → x0 ≠ x1 :=
  fun {x0} {x1} {x2} {x3} {x4} => linG [x2, x0, x3, x1] [] [.nl (.v 0) (.v 1), .an (.nl (.a (.v 2) (.k 1)) (.v 0)) (.an (.nl (.k 145) (.v 0)) (.an (.nl (.v 3) (.v 0)) (.pr x4)))] (.nne (.v 1) (.v 3)) [1, 0, 1, 0, 0, 1] rfl
theorem om388 : ∀ {x0 : Int}, x0 < (2 : Int) → x0 < (2 : Int) ^ (63 : Nat) :=
  fun {x0} => linG [] [x0] [.zl (.v 0) (.k 2)] (.zl (.v 0) (.k (2^63))) [1, 1] rfl
theorem om389 : ∀ {x0 : Nat}, x0 = (1 : Nat) → (PySem.Str.ofString "").length = (0 : Nat) → (PySem.Str.ofString "").length + x0 ≤ (16777216 : Nat) := by
  intros; first | decide | lia | omega
theorem om390 : ∀ {x0 : Nat}, x0 = (9 : Nat) ∨ x0 = (32 : Nat) ∨ (97 : Nat) ≤ x0 ∧ x0 ≤ (101 : Nat) → x0 < (1114112 : Nat) := by
  intros; first | decide | lia | omega
theorem om391 : ∀ {x0 x1 : Int}, (0 : Int) ≤ x1 ∧ x1 ≤ (5 : Int) ∧ (0 : Int) ≤ x0 ∧ x0 ≤ (5 : Int) → x0 ≤ (5 : Int) :=
  fun {x0} {x1} => linG [] [x1, x0] [.an (.zle (.k 0) (.v 0)) (.an (.zle (.v 0) (.k 5)) (.an (.zle (.k 0) (.v 1)) (.zle (.v 1) (.k 5))))] (.zle (.v 1) (.k 5)) [1, 0, 0, 0, 1] rfl
theorem om393 : ∀ {x0 : Int} {x1 : Nat}, (↑x1 : Int) ≤ x0 → -(2 : Int) ^ (63 : Nat) ≤ x0 - (↑x1 : Int) + (1 : Int) :=
  fun {x0} {x1} => linG [x1] [x0] [.zle (.c (.v 0)) (.v 0)] (.zle (.k (-(2:Int)^63)) (.a (.s (.v 0) (.c (.v 0))) (.k 1))) [1, 1] rfl
theorem om394 : ∀ {x0 : Nat}, x0 < (3 : Nat) → (0 : Int) + (↑x0 : Int) < (↑((1 : Nat) + (1 : Nat) + (1 : Nat)) : Int) :=
  fun {x0} => linG [x0] [] [.nl (.v 0) (.k 3)] (.zl (.a (.k 0) (.c (.v 0))) (.c (.a (.a (.k 1) (.k 1)) (.k 1)))) [1, 1] rfl
theorem om395 : ∀ {x0 : Nat}, x0 + (112 : Nat) < PySem.cLine → x0 + (1 : Nat) + (110 : Nat) < PySem.cLine :=
  fun {x0} => linG [x0, PySem.cLine] [] [.nl (.a (.v 0) (.k 112)) (.v 1)] (.nl (.a (.a (.v 0) (.k 1)) (.k 110)) (.v 1)) [1, 1] rfl
theorem om396 : ∀ {x0 x1 x2 : Nat}, x1 + (0 : Nat) = x2 + (1 : Nat) → x0 = x2 → x0 ≤ x1 :=
  fun {x0} {x1} {x2} => linG [x1, x2, x0] [] [.ne (.a (.v 0) (.k 0)) (.a (.v 1) (.k 1)), .ne (.v 2) (.v 1)] (.nle (.v 2) (.v 0)) [1, 0, 1, 1] rfl
theorem om397 : ∀ {x0 x1 : Int} {x2 : Nat}, x0 - (x1 + (x0 - x1 + (0 : Int))) ≤ (↑x2 : Int) :=
  fun {x0} {x1} {x2} => linG [x2] [x0, x1] [] (.zle (.s (.v 0) (.a (.v 1) (.a (.s (.v 0) (.v 1)) (.k 0)))) (.c (.v 0))) [1, 1] rfl
theorem om398 : ∀ {x0 : Nat}, x0 = (5 : Nat) → x0 ≤ (16777216 : Nat) :=
  fun {x0} => linG [x0] [] [.ne (.v 0) (.k 5)] (.nle (.v 0) (.k 16777216)) [1, 1] rfl
theorem om399 : ∀ {x0 : Nat}, x0 ≤ (400 : Nat) → (PySem.Str.ofString "\"").length = (1 : Nat) → (PySem.Str.ofString "\"").length + x0 ≤ (16777216 : Nat) := by
  intros; first | decide | lia | omega
theorem om400 : ∀ {x0 : Nat}, (-9223372036854775808 : Int) < (↑x0 : Int) - (1 : Int) := by
  intros; first | decide | lia | omega
theorem om401 : ∀ {x0 : Nat}, x0 < (100 : Nat) → (↑x0 : Int) - (1 : Int) < (2 : Int) ^ (63 : Nat) :=
  fun {x0} => linG [x0] [] [.nl (.v 0) (.k 100)] (.zl (.s (.c (.v 0)) (.k 1)) (.k (2^63))) [1, 1] rfl
theorem om402 : ∀ {x0 : Nat}, x0 < (100 : Nat) → (↑x0 : Int) - (1 : Int) < (9223372036854775808 : Int) :=
  fun {x0} => linG [x0] [] [.nl (.v 0) (.k 100)] (.zl (.s (.c (.v 0)) (.k 1)) (.k 9223372036854775808)) [1, 1] rfl
theorem om404 : ∀ {x0 : Nat}, (0 : Nat) < x0 → (0 : Int) ≤ (↑x0 : Int) - (1 : Int) :=
  fun {x0} => linG [x0] [] [.nl (.k 0) (.v 0)] (.zle (.k 0) (.s (.c (.v 0)) (.k 1))) [1, 1] rfl
theorem om405 : ∀ {x0 : Nat}, x0 + (110 : Nat) < PySem.cLine → x0 + (3 : Nat) + (100 : Nat) < PySem.cLine :=
  fun {x0} => linG [x0, PySem.cLine] [] [.nl (.a (.v 0) (.k 110)) (.v 1)] (.nl (.a (.a (.v 0) (.k 3)) (.k 100)) (.v 1)) [1, 1] rfl
theorem om406 : ∀ {x0 : Nat}, x0 + (1 : Nat) + (1 : Nat) + (1 : Nat) + (1 : Nat) + (1 : Nat) ≠ x0 + (1 : Nat) + (1 : Nat) + (1 : Nat) :=
  fun {x0} => linG [x0] [] [] (.nne (.a (.a (.a (.a (.a (.v 0) (.k 1)) (.k 1)) (.k 1)) (.k 1)) (.k 1)) (.a (.a (.a (.v 0) (.k 1)) (.k 1)) (.k 1))) [1] rfl
theorem om407 : ∀ {x0 : Nat}, x0 = (5 : Nat) → (↑x0 : Int) < (2 : Int) ^ (63 : Nat) :=
  fun {x0} => linG [x0] [] [.ne (.v 0) (.k 5)] (.zl (.c (.v 0)) (.k (2^63))) [1, 1] rfl
theorem om408 : ∀ {x0 : Nat}, x0 + (1 : Nat) + (1 : Nat) + (1 : Nat) + (1 : Nat) + (1 : Nat) + (1 : Nat) ≠ x0 + (1 : Nat) + (1 : Nat) :=
  fun {x0} => linG [x0] [] [] (.nne (.a (.a (.a (.a (.a (.a (.v 0) (.k 1)) (.k 1)) (.k 1)) (.k 1)) (.k 1)) (.k 1)) (.a (.a (.v 0) (.k 1)) (.k 1))) [1] rfl
theorem om409 : ∀ {x0 : Nat}, x0 ≤ (100 : Nat) → (-1 : Int) ≤ (↑x0 : Int) - (1 : Int) ∧ (↑x0 : Int) - (1 : Int) ≤ (100 : Int) := by
  intros; first | decide | lia | omega
theorem om410 : ∀ {x0 : Int}, (-1 : Int) ≤ x0 ∧ x0 ≤ (100 : Int) → x0 + (1 : Int) + (1 : Int) < (2 : Int) ^ (62 : Nat) := by
  intros; first | decide | lia | omega
theorem om411 : ∀ {x0 : Nat}, x0 + (1 : Nat) + (1 : Nat) = (2 : Nat) + x0 :=
  fun {x0} => linE [x0] [] [] (.a (.a (.v 0) (.k 1)) (.k 1)) (.a (.k 2) (.v 0)) [1] [1] rfl rfl
theorem om412 : (1 : Int) < (2 : Int) ^ (63 : Nat) :=
  linG [] [] [] (.zl (.k 1) (.k (2^63))) [1] rfl
theorem om413 : (0 : Nat) ≤ (5 : Nat) :=
  linG [] [] [] (.nle (.k 0) (.k 5)) [1] rfl
theorem om414 : ∀ {x0 : Nat}, (145 : Nat) < x0 → (145 : Nat) ≠ x0 + (1 : Nat) + (1 : Nat) + (1 : Nat) :=
  fun {x0} => linG [x0] [] [.nl (.k 145) (.v 0)] (.nne (.k 145) (.a (.a (.a (.v 0) (.k 1)) (.k 1)) (.k 1))) [0, 1, 1] rfl
theorem om415 : ∀ {x0 x1 : Nat}, ¬x0 = x1 → (↑x0 : Int) ≠ (↑x1 : Int) := by
  intros; first | decide | lia | omega
theorem om416 : ∀ {x0 x1 : Nat}, x0 = x1 → x1 ≤ (100 : Nat) → x0 ≤ (16384 : Nat) :=
  fun {x0} {x1} => linG [x0, x1] [] [.ne (.v 0) (.v 1), .nle (.v 1) (.k 100)] (.nle (.v 0) (.k 16384)) [1, 1, 0, 1] rfl
theorem om417 : ∀ {x0 : Nat}, x0 < (100 : Nat) → (↑x0 : Int) - (1 : Int) < (2 : Int) ^ (62 : Nat) :=
  fun {x0} => linG [x0] [] [.nl (.v 0) (.k 100)] (.zl (.s (.c (.v 0)) (.k 1)) (.k (2^62))) [1, 1] rfl
theorem om419 : (1 : Int) < (↑((1 : Nat) + (1 : Nat) + (1 : Nat)) : Int) :=
  linG [] [] [] (.zl (.k 1) (.c (.a (.a (.k 1) (.k 1)) (.k 1)))) [1] rfl
theorem om421 : (0 : Nat) + (1 : Nat) + (1 : Nat) + (1 : Nat) ≤ (16777216 : Nat) :=
  linG [] [] [] (.nle (.a (.a (.a (.k 0) (.k 1)) (.k 1)) (.k 1)) (.k 16777216)) [1] rfl
theorem om422 : ∀ {x0 x1 x2 : Nat} {x3 : Prop}, x0 + (1 : Nat) < x1 ∧ (145 : Nat) < x1 ∧ x2 < x1 ∧ x3 → x0 + (1 : Nat) ≠ x1 :=
  fun {x0} {x1} {x2} {x3} => linG [x0, x1, x2] [] [.an (.nl (.a (.v 0) (.k 1)) (.v 1)) (.an (.nl (.k 145) (.v 1)) (.an (.nl (.v 2) (.v 1)) (.pr x3)))] (.nne (.a (.v 0) (.k 1)) (.v 1)) [0, 1, 1] rfl
theorem om423 : (0 : Int) ≤ (1 : Int) :=
  linG [] [] [] (.zle (.k 0) (.k 1)) [1] rfl
theorem om424 : ∀ {x0 : Nat}, x0 + (1 : Nat) + (1 : Nat) + (1 : Nat) + (1 : Nat) ≠ x0 + (1 : Nat) + (1 : Nat) + (1 : Nat) :=
  fun {x0} => linG [x0] [] [] (.nne (.a (.a (.a (.a (.v 0) (.k 1)) (.k 1)) (.k 1)) (.k 1)) (.a (.a (.a (.v 0) (.k 1)) (.k 1)) (.k 1))) [1] rfl
theorem om425 : ∀ {x0 x1 x2 x3 x4 : Nat} {x5 : Prop}, x2 < x0 ∧ x3 < x0 ∧ x4 < x0 ∧ x1 < x0 ∧ x5 → x0 ≠ x1 :=
  fun {x0} {x1} {x2} {x3} {x4} {x5} => linG [x2, x0, x3, x4, x1] [] [.an (.nl (.v 0) (.v 1)) (.an (.nl (.v 2) (.v 1)) (.an (.nl (.v 3) (.v 1)) (.an (.nl (.v 4) (.v 1)) (.pr x5))))] (.nne (.v 1) (.v 4)) [1, 0, 0, 0, 0, 1] rfl
theorem om426 : ∀ {x0 : Int}, (0 : Int) ≤ x0 → x0 ≤ (↑(100 : Nat) : Int) → (-1 : Int) ≤ x0 ∧ x0 ≤ (100 : Int) := by
  intros; first | decide | lia | omega
theorem om427 : ∀ {x0 : Nat}, x0 + (1 : Nat) + (1 : Nat) + (1 : Nat) + (1 : Nat) + (1 : Nat) ≠ x0 + (1 : Nat) + (1 : Nat) :=
  fun {x0} => linG [x0] [] [] (.nne (.a (.a (.a (.a (.a (.v 0) (.k 1)) (.k 1)) (.k 1)) (.k 1)) (.k 1)) (.a (.a (.v 0) (.k 1)) (.k 1))) [1] rfl
theorem om429 : ∀ {x0 : Nat}, (97 : Nat) ≤ x0 ∧ x0 ≤ (101 : Nat) → x0 ≠ (34 : Nat) :=
  fun {x0} => linG [x0] [] [.an (.nle (.k 97) (.v 0)) (.nle (.v 0) (.k 101))] (.nne (.v 0) (.k 34)) [1, 0, 1] rfl
theorem om430 : ∀ {x0 x1 x2 x3 : Nat} {x4 : Prop}, x2 < x0 ∧ x3 < x0 ∧ x1 < x0 ∧ x4 → x0 ≠ x1 :=
  fun {x0} {x1} {x2} {x3} {x4} => linG [x2, x0, x3, x1] [] [.an (.nl (.v 0) (.v 1)) (.an (.nl (.v 2) (.v 1)) (.an (.nl (.v 3) (.v 1)) (.pr x4)))] (.nne (.v 1) (.v 3)) [1, 0, 0, 0, 1] rfl
theorem om431 : ∀ {x0 x1 x2 x3 x4 x5 : Nat} {x6 : Prop}, x2 < x0 ∧ x3 < x0 ∧ x4 < x0 ∧ x5 + (1 : Nat) < x0 ∧ (145 : Nat) < x0 ∧ x1 < x0 ∧ x6 → x0 ≠ x1 :=
  fun {x0} {x1} {x2} {x3} {x4} {x5} {x6} => linG [x2, x0, x3, x4, x5, x1] [] [.an (.nl (.v 0) (.v 1)) (.an (.nl (.v 2) (.v 1)) (.an (.nl (.v 3) (.v 1)) (.an (.nl (.a (.v 4) (.k 1)) (.v 1)) (.an (.nl (.k 145) (.v 1)) (.an (.nl (.v 5) (.v 1)) (.pr x6))))))] (.nne (.v 1) (.v 5)) [1, 0, 0, 0, 0, 0, 0, 1] rfl
theorem om432 : ∀ {x0 x1 : Nat}, x0 = x1 → x1 ≤ (132 : Nat) * (5 : Nat) → x0 ≤ (1000 : Nat) :=
  fun {x0} {x1} => linG [x0, x1] [] [.ne (.v 0) (.v 1), .nle (.v 1) (.m 132 (.k 5))] (.nle (.v 0) (.k 1000)) [1, 1, 0, 1] rfl
theorem om433 : ∀ {x0 : Int}, (1 : Int) ≤ x0 → -(2 : Int) ^ (62 : Nat) ≤ x0 :=
  fun {x0} => linG [] [x0] [.zle (.k 1) (.v 0)] (.zle (.k (-(2:Int)^62)) (.v 0)) [1, 1] rfl
theorem om434 : ∀ {x0 x1 x2 x3 x4 x5 : Nat} {x6 : Prop}, x2 < x0 ∧ x3 < x0 ∧ x1 < x0 ∧ x4 + (1 : Nat) < x0 ∧ (145 : Nat) < x0 ∧ x5 < x0 ∧ x6 → x0 ≠ x1 :=
  fun {x0} {x1} {x2} {x3} {x4} {x5} {x6} => linG [x2, x0, x3, x1, x4, x5] [] [.an (.nl (.v 0) (.v 1)) (.an (.nl (.v 2) (.v 1)) (.an (.nl (.v 3) (.v 1)) (.an (.nl (.a (.v 4) (.k 1)) (.v 1)) (.an (.nl (.k 145) (.v 1)) (.an (.nl (.v 5) (.v 1)) (.pr x6))))))] (.nne (.v 1) (.v 3)) [1, 0, 0, 0, 1] rfl
theorem om435 : ∀ {x0 x1 : Nat}, x0 < x1 → x0 < x1 + (1 : Nat) :=
  fun {x0} {x1} => linG [x0, x1] [] [.nl (.v 0) (.v 1)] (.nl (.v 0) (.a (.v 1) (.k 1))) [1, 1] rfl
theorem om436 : ∀ {x0 : Nat}, x0 ≤ (1000 : Nat) → (↑x0 : Int) < (2 : Int) ^ (62 : Nat) :=
  fun {x0} => linG [x0] [] [.nle (.v 0) (.k 1000)] (.zl (.c (.v 0)) (.k (2^62))) [1, 1] rfl
theorem om437 : ∀ {x0 x1 : Nat} {x2 : Prop}, (145 : Nat) < x0 ∧ x1 < x0 ∧ x2 → x0 + (1 : Nat) ≠ x1 :=
  fun {x0} {x1} {x2} => linG [x0, x1] [] [.an (.nl (.k 145) (.v 0)) (.an (.nl (.v 1) (.v 0)) (.pr x2))] (.nne (.a (.v 0) (.k 1)) (.v 1)) [1, 0, 0, 1] rfl
theorem om438 : ∀ {x0 : Nat}, x0 ≤ (3 : Nat) → x0 ≤ (100000 : Nat) :=
  fun {x0} => linG [x0] [] [.nle (.v 0) (.k 3)] (.nle (.v 0) (.k 100000)) [1, 1] rfl
theorem om439 : ∀ {x0 : Nat}, x0 + (0 : Nat) + (2 : Nat) < PySem.recursionLimit → x0 < PySem.recursionLimit :=
  fun {x0} => linG [x0, PySem.recursionLimit] [] [.nl (.a (.a (.v 0) (.k 0)) (.k 2)) (.v 1)] (.nl (.v 0) (.v 1)) [1, 1] rfl
theorem om440 : ∀ {x0 : Int} {x1 : Nat}, (0 : Int) ≤ (x0 + (↑x1 : Int)) / x0 → -(2 : Int) ^ (64 : Nat) < (x0 + (↑x1 : Int)) / x0 := by
  intros; first | decide | lia | omega
theorem om441 : ∀ {x0 : Nat}, (0 : Int) ≤ (↑x0 : Int) + (1 : Int) :=
  fun {x0} => linG [x0] [] [] (.zle (.k 0) (.a (.c (.v 0)) (.k 1))) [1, 1] rfl
theorem om443 : ∀ {x0 : Int} {x1 : Nat}, ¬(↑x1 : Int) ≤ x0 → x0 < (↑x1 : Int) :=
  fun {x0} {x1} => linG [x1] [x0] [.nzle (.c (.v 0)) (.v 0)] (.zl (.v 0) (.c (.v 0))) [1, 1] rfl
theorem om444 : ∀ {x0 x1 x2 : Nat}, x0 + (x2 + (1 : Nat)) = x1 → x0 < x1 :=
  fun {x0} {x1} {x2} => linG [x0, x2, x1] [] [.ne (.a (.v 0) (.a (.v 1) (.k 1))) (.v 2)] (.nl (.v 0) (.v 2)) [1, 1, 0, 0, 1] rfl
theorem om446 : ∀ {x0 : Nat}, x0 ≤ (132 : Nat) * (5 : Nat) → x0 + (5 : Nat) ≤ (1048576 : Nat) :=
  fun {x0} => linG [x0] [] [.nle (.v 0) (.m 132 (.k 5))] (.nle (.a (.v 0) (.k 5)) (.k 1048576)) [1, 1] rfl
theorem om447 : ∀ {x0 : Nat}, (145 : Nat) < x0 → (145 : Nat) ≠ x0 + (1 : Nat) + (1 : Nat) :=
  fun {x0} => linG [x0] [] [.nl (.k 145) (.v 0)] (.nne (.k 145) (.a (.a (.v 0) (.k 1)) (.k 1))) [0, 1, 1] rfl
theorem om448 : ∀ {x0 x1 x2 : Nat} {x3 : Prop}, x2 + (1 : Nat) < x1 ∧ (145 : Nat) < x1 ∧ x0 < x1 ∧ x3 → x0 ≠ x1 :=
  fun {x0} {x1} {x2} {x3} => linG [x2, x1, x0] [] [.an (.nl (.a (.v 0) (.k 1)) (.v 1)) (.an (.nl (.k 145) (.v 1)) (.an (.nl (.v 2) (.v 1)) (.pr x3)))] (.nne (.v 2) (.v 1)) [0, 1, 0, 0, 1] rfl
theorem om449 : ∀ {x0 : Nat}, (0 : Nat) ≤ x0 :=
  fun {x0} => linG [x0] [] [] (.nle (.k 0) (.v 0)) [1, 1] rfl
theorem om450 : ∀ {x0 : Nat}, x0 + (6 : Nat) < PySem.recursionLimit → x0 < PySem.recursionLimit :=
  fun {x0} => linG [x0, PySem.recursionLimit] [] [.nl (.a (.v 0) (.k 6)) (.v 1)] (.nl (.v 0) (.v 1)) [1, 1] rfl
theorem om451 : ∀ {x0 : Int}, (1 : Int) ≤ x0 → -(2 : Int) ^ (64 : Nat) < x0 :=
  fun {x0} => linG [] [x0] [.zle (.k 1) (.v 0)] (.zl (.k (-(2:Int)^64)) (.v 0)) [1, 1] rfl
theorem om452 : ∀ {x0 x1 : Nat}, ¬(↑x0 : Int) ≤ (1 : Int) → (↑x1 : Int) ≤ (1 : Int) ∧ (↑x0 : Int) ≤ (1 : Int) → False :=
  fun {x0} {x1} => linF [x0, x1] [] [.nzle (.c (.v 0)) (.k 1), .an (.zle (.c (.v 1)) (.k 1)) (.zle (.c (.v 0)) (.k 1))]  [1, 0, 1] rfl
theorem om453 : ∀ {x0 x1 x2 : Nat} {x3 : Prop}, x2 + (1 : Nat) < x0 ∧ (145 : Nat) < x0 ∧ x1 < x0 ∧ x3 → x0 ≠ x1 :=
  fun {x0} {x1} {x2} {x3} => linG [x2, x0, x1] [] [.an (.nl (.a (.v 0) (.k 1)) (.v 1)) (.an (.nl (.k 145) (.v 1)) (.an (.nl (.v 2) (.v 1)) (.pr x3)))] (.nne (.v 1) (.v 2)) [1, 0, 0, 0, 1] rfl
theorem om454 : ∀ {x0 : Nat}, x0 + (1 : Nat) + (1 : Nat) + (1 : Nat) + (1 : Nat) ≠ x0 + (1 : Nat) + (1 : Nat) :=
  fun {x0} => linG [x0] [] [] (.nne (.a (.a (.a (.a (.v 0) (.k 1)) (.k 1)) (.k 1)) (.k 1)) (.a (.a (.v 0) (.k 1)) (.k 1))) [1] rfl
theorem om455 : ∀ {x0 x1 : Int}, x0 < x1 → x1 - x0 ≤ (↑(0 : Nat) : Int) → False :=
  fun {x0} {x1} => linF [] [x0, x1] [.zl (.v 0) (.v 1), .zle (.s (.v 1) (.v 0)) (.c (.k 0))]  [1, 1] rfl
theorem om457 : ∀ {x0 : Int}, (1 : Int) ≤ x0 → (0 : Int) ≤ x0 :=
  fun {x0} => linG [] [x0] [.zle (.k 1) (.v 0)] (.zle (.k 0) (.v 0)) [1, 1] rfl
theorem om458 : ∀ {x0 x1 : Nat}, ¬(↑x0 : Int) ≤ (1 : Int) → (↑x0 : Int) ≤ (1 : Int) ∧ (↑x1 : Int) ≤ (1 : Int) → False :=
  fun {x0} {x1} => linF [x0, x1] [] [.nzle (.c (.v 0)) (.k 1), .an (.zle (.c (.v 0)) (.k 1)) (.zle (.c (.v 1)) (.k 1))]  [1, 1] rfl
theorem om459 : ∀ {x0 : Int} {x1 : Nat}, (x0 + (↑x1 : Int)) / x0 ≤ (1000 : Int) → (x0 + (↑x1 : Int)) / x0 < (2 : Int) ^ (64 : Nat) := by
  intros; first | decide | lia | omega
theorem om460 : ∀ {x0 : Nat}, (1 : Int) ≤ (2 : Int) + (↑x0 : Int) :=
  fun {x0} => linG [x0] [] [] (.zle (.k 1) (.a (.k 2) (.c (.v 0)))) [1, 1] rfl
theorem om461 : ∀ {x0 : Nat}, -(2 : Int) ^ (64 : Nat) < (↑x0 : Int) :=
  fun {x0} => linG [x0] [] [] (.zl (.k (-(2:Int)^64)) (.c (.v 0))) [1, 1] rfl
theorem om463 : ∀ {x0 : Nat}, (0 : Nat) + (x0 + (1 : Nat)) = x0 + (1 : Nat) :=
  fun {x0} => linE [x0] [] [] (.a (.k 0) (.a (.v 0) (.k 1))) (.a (.v 0) (.k 1)) [1] [1] rfl rfl
theorem om464 : ∀ {x0 x1 : Nat}, ¬x1 = x0 → (↑x0 : Int) ≠ (↑x1 : Int) := by
  intros; first | decide | lia | omega
theorem om465 : ∀ {x0 : Int}, (0 : Int) ≤ x0 → (1 : Int) + x0 ≠ (0 : Int) :=
  fun {x0} => linG [] [x0] [.zle (.k 0) (.v 0)] (.nze (.a (.k 1) (.v 0)) (.k 0)) [1, 0, 1] rfl
theorem om466 : ∀ {x0 x1 x2 x3 x4 x5 : Nat} {x6 : Prop}, x1 < x0 ∧ x2 < x0 ∧ x3 < x0 ∧ x4 + (1 : Nat) < x0 ∧ (145 : Nat) < x0 ∧ x5 < x0 ∧ x6 → x0 ≠ (145 : Nat) :=
  fun {x0} {x1} {x2} {x3} {x4} {x5} {x6} => linG [x1, x0, x2, x3, x4, x5] [] [.an (.nl (.v 0) (.v 1)) (.an (.nl (.v 2) (.v 1)) (.an (.nl (.v 3) (.v 1)) (.an (.nl (.a (.v 4) (.k 1)) (.v 1)) (.an (.nl (.k 145) (.v 1)) (.an (.nl (.v 5) (.v 1)) (.pr x6))))))] (.nne (.v 1) (.k 145)) [1, 0, 0, 0, 0, 0, 1] rfl
theorem om469 : ∀ {x0 : Int}, x0 ≤ (1000 : Int) → x0 < (2 : Int) ^ (64 : Nat) :=
  fun {x0} => linG [] [x0] [.zle (.v 0) (.k 1000)] (.zl (.v 0) (.k (2^64))) [1, 1] rfl
theorem om470 : ∀ {x0 x1 x2 : Nat} {x3 : Prop}, x1 + (1 : Nat) < x0 ∧ (145 : Nat) < x0 ∧ x2 < x0 ∧ x3 → (145 : Nat) ≠ x0 :=
  fun {x0} {x1} {x2} {x3} => linG [x1, x0, x2] [] [.an (.nl (.a (.v 0) (.k 1)) (.v 1)) (.an (.nl (.k 145) (.v 1)) (.an (.nl (.v 2) (.v 1)) (.pr x3)))] (.nne (.k 145) (.v 1)) [0, 1, 0, 1] rfl
theorem om471 : ∀ {x0 : Nat}, x0 ≤ (10 : Nat) → (↑x0 : Int) ≤ (10 : Int) :=
  fun {x0} => linG [x0] [] [.nle (.v 0) (.k 10)] (.zle (.c (.v 0)) (.k 10)) [1, 1] rfl
theorem om472 : ∀ {x0 : Nat}, x0 ≤ (10 : Nat) → (↑x0 : Int) < (2 : Int) ^ (64 : Nat) :=
  fun {x0} => linG [x0] [] [.nle (.v 0) (.k 10)] (.zl (.c (.v 0)) (.k (2^64))) [1, 1] rfl
theorem om474 : ∀ {x0 : Nat}, x0 + (1 : Nat) + (1 : Nat) + (1 : Nat) ≠ x0 + (1 : Nat) + (1 : Nat) :=
  fun {x0} => linG [x0] [] [] (.nne (.a (.a (.a (.v 0) (.k 1)) (.k 1)) (.k 1)) (.a (.a (.v 0) (.k 1)) (.k 1))) [1] rfl
theorem om476 : ∀ {x0 x1 x2 : Nat} {x3 : Prop}, x2 < x0 ∧ x1 < x0 ∧ x3 → x0 ≠ x1 :=
  fun {x0} {x1} {x2} {x3} => linG [x2, x0, x1] [] [.an (.nl (.v 0) (.v 1)) (.an (.nl (.v 2) (.v 1)) (.pr x3))] (.nne (.v 1) (.v 2)) [1, 0, 0, 1] rfl
theorem om477 : ∀ {x0 x1 : Nat}, x0 ≤ x1 → (↑x0 : Int) - (1 : Int) < (↑x1 : Int) :=
  fun {x0} {x1} => linG [x0, x1] [] [.nle (.v 0) (.v 1)] (.zl (.s (.c (.v 0)) (.k 1)) (.c (.v 1))) [1, 1] rfl
theorem om478 : ∀ {x0 : Int}, x0 ≤ (1000 : Int) → x0 < (2 : Int) ^ (62 : Nat) :=
  fun {x0} => linG [] [x0] [.zle (.v 0) (.k 1000)] (.zl (.v 0) (.k (2^62))) [1, 1] rfl
theorem om479 : ∀ {x0 : Nat}, x0 + (1 : Nat) ≠ x0 + (4 : Nat) :=
  fun {x0} => linG [x0] [] [] (.nne (.a (.v 0) (.k 1)) (.a (.v 0) (.k 4))) [0, 1] rfl
theorem om480 : ∀ {x0 : Nat}, x0 + (2 : Nat) ≠ x0 + (4 : Nat) :=
  fun {x0} => linG [x0] [] [] (.nne (.a (.v 0) (.k 2)) (.a (.v 0) (.k 4))) [0, 1] rfl
theorem om481 : ∀ {x0 : Nat}, x0 + (3 : Nat) ≠ x0 + (1 : Nat) :=
  fun {x0} => linG [x0] [] [] (.nne (.a (.v 0) (.k 3)) (.a (.v 0) (.k 1))) [1] rfl
theorem om482 : ∀ {x0 : Nat}, x0 + (2 : Nat) ≠ x0 + (3 : Nat) :=
  fun {x0} => linG [x0] [] [] (.nne (.a (.v 0) (.k 2)) (.a (.v 0) (.k 3))) [0, 1] rfl
theorem om483 : ∀ {x0 : Nat}, x0 + (3 : Nat) ≠ x0 + (4 : Nat) :=
  fun {x0} => linG [x0] [] [] (.nne (.a (.v 0) (.k 3)) (.a (.v 0) (.k 4))) [0, 1] rfl
theorem om484 : ∀ {x0 : Nat}, x0 + (2 : Nat) ≠ x0 + (1 : Nat) :=
  fun {x0} => linG [x0] [] [] (.nne (.a (.v 0) (.k 2)) (.a (.v 0) (.k 1))) [1] rfl
theorem om485 : ∀ {x0 : Nat}, x0 = (5 : Nat) → (5 : Nat) < x0 + (1 : Nat) :=
  fun {x0} => linG [x0] [] [.ne (.v 0) (.k 5)] (.nl (.k 5) (.a (.v 0) (.k 1))) [1, 0, 1] rfl
theorem om486 : ∀ {x0 : Nat}, (0 : Nat) + x0 = x0 :=
  fun {x0} => linE [x0] [] [] (.a (.k 0) (.v 0)) (.v 0) [1] [1] rfl rfl
theorem om487 : ∀ {x0 : Nat}, x0 ≤ (200 : Nat) → x0 ≤ (16777216 : Nat) :=
  fun {x0} => linG [x0] [] [.nle (.v 0) (.k 200)] (.nle (.v 0) (.k 16777216)) [1, 1] rfl
theorem om488 : ∀ {x0 : Int}, (1 : Int) ≤ x0 → x0 ≠ (0 : Int) :=
  fun {x0} => linG [] [x0] [.zle (.k 1) (.v 0)] (.nze (.v 0) (.k 0)) [1, 0, 1] rfl
theorem om491 : (0 : Int) ≤ (0 : Int) :=
  linG [] [] [] (.zle (.k 0) (.k 0)) [1] rfl
theorem om492 : ∀ {x0 x1 : Nat}, x0 < x1 → (↑x0 : Int) < (↑x1 : Int) :=
  fun {x0} {x1} => linG [x0, x1] [] [.nl (.v 0) (.v 1)] (.zl (.c (.v 0)) (.c (.v 1))) [1, 1] rfl
theorem om493 : ∀ {x0 : Nat}, x0 - (1 : Nat) = x0 → x0 ≤ x0 - (1 : Nat) := by
  intros; first | decide | lia | omega
theorem om494 : ∀ {x0 : Nat}, x0 ≤ (200 : Nat) → x0 ≤ (1048576 : Nat) :=
  fun {x0} => linG [x0] [] [.nle (.v 0) (.k 200)] (.nle (.v 0) (.k 1048576)) [1, 1] rfl
theorem om495 : ∀ {x0 : Nat}, x0 ≤ (63 : Nat) → x0 ≤ (16777216 : Nat) :=
  fun {x0} => linG [x0] [] [.nle (.v 0) (.k 63)] (.nle (.v 0) (.k 16777216)) [1, 1] rfl
theorem om498 : ∀ {x0 : Nat}, x0 ≤ (100000 : Nat) → x0 ≤ (16777216 : Nat) :=
  fun {x0} => linG [x0] [] [.nle (.v 0) (.k 100000)] (.nle (.v 0) (.k 16777216)) [1, 1] rfl
theorem om500 : ∀ {x0 : Nat}, (1 : Nat) ≤ x0 + (1 : Nat) :=
  fun {x0} => linG [x0] [] [] (.nle (.k 1) (.a (.v 0) (.k 1))) [1, 1] rfl
theorem om501 : ∀ {x0 : Nat}, ¬(↑(63 : Nat) : Int) < (↑x0 : Int) → x0 ≤ (63 : Nat) :=
  fun {x0} => linG [x0] [] [.nzl (.c (.k 63)) (.c (.v 0))] (.nle (.v 0) (.k 63)) [1, 1] rfl
theorem om502 : ∀ {x0 : Nat}, x0 + (1 : Nat) ≠ x0 + (1 : Nat) + (1 : Nat) :=
  fun {x0} => linG [x0] [] [] (.nne (.a (.v 0) (.k 1)) (.a (.a (.v 0) (.k 1)) (.k 1))) [0, 1] rfl
theorem om503 : (0 : Int) ≤ (40 : Int) :=
  linG [] [] [] (.zle (.k 0) (.k 40)) [1] rfl
theorem om506 : ∀ {x0 : Nat}, x0 + (2 : Nat) ≠ x0 :=
  fun {x0} => linG [x0] [] [] (.nne (.a (.v 0) (.k 2)) (.v 0)) [1] rfl
theorem om507 : ∀ {x0 : Nat}, x0 + (3 : Nat) ≠ x0 :=
  fun {x0} => linG [x0] [] [] (.nne (.a (.v 0) (.k 3)) (.v 0)) [1] rfl
theorem om508 : ∀ {x0 : Nat}, x0 ≠ x0 + (4 : Nat) :=
  fun {x0} => linG [x0] [] [] (.nne (.v 0) (.a (.v 0) (.k 4))) [0, 1] rfl
theorem om509 : ∀ {x0 : Nat}, x0 ≤ (60 : Nat) → x0 ≤ (100 : Nat) :=
  fun {x0} => linG [x0] [] [.nle (.v 0) (.k 60)] (.nle (.v 0) (.k 100)) [1, 1] rfl
theorem om510 : ∀ {x0 : Nat}, (-9223372036854775808 : Int) < (↑x0 : Int) := by
  intros; first | decide | lia | omega
theorem om511 : ∀ {x0 : Nat}, x0 ≠ x0 + (1 : Nat) :=
  fun {x0} => linG [x0] [] [] (.nne (.v 0) (.a (.v 0) (.k 1))) [0, 1] rfl
theorem om512 : ∀ {x0 : Nat}, (46 : Nat) ≠ (117 : Nat) + x0 :=
  fun {x0} => linG [x0] [] [] (.nne (.k 46) (.a (.k 117) (.v 0))) [0, 1, 1] rfl
theorem om513 : ∀ {x0 : Nat}, (↑x0 : Int) - (1 : Int) < (↑x0 : Int) :=
  fun {x0} => linG [x0] [] [] (.zl (.s (.c (.v 0)) (.k 1)) (.c (.v 0))) [1] rfl
theorem om514 : ∀ {x0 : Nat}, (0 : Nat) < x0 → -(↑x0 : Int) ≤ (-1 : Int) := by
  intros; first | decide | lia | omega
theorem om515 : (1 : Int) ≤ (1 : Int) ∧ (1 : Int) ≤ (40 : Int) := by
  intros; first | decide | lia | omega
theorem om516 : -(2 : Int) ^ (62 : Nat) ≤ (2 : Int) :=
  linG [] [] [] (.zle (.k (-(2:Int)^62)) (.k 2)) [1] rfl
theorem om519 : (1 : Int) ≤ (5 : Int) :=
  linG [] [] [] (.zle (.k 1) (.k 5)) [1] rfl
theorem om520 : (5 : Int) < (100 : Int) :=
  linG [] [] [] (.zl (.k 5) (.k 100)) [1] rfl
theorem om522 : (0 : Int) ≤ (10 : Int) :=
  linG [] [] [] (.zle (.k 0) (.k 10)) [1] rfl
theorem om523 : (0 : Int) ≤ (0 : Int) ∧ (0 : Int) ≤ (5 : Int) := by
  intros; first | decide | lia | omega
theorem om524 : (0 : Int) < (2 : Int) ^ (63 : Nat) :=
  linG [] [] [] (.zl (.k 0) (.k (2^63))) [1] rfl
theorem om525 : (0 : Int) < (↑((1 : Nat) + (1 : Nat) + (1 : Nat)) : Int) :=
  linG [] [] [] (.zl (.k 0) (.c (.a (.a (.k 1) (.k 1)) (.k 1)))) [1] rfl
theorem om526 : (2 : Int) < (2 : Int) ^ (62 : Nat) :=
  linG [] [] [] (.zl (.k 2) (.k (2^62))) [1] rfl
theorem om527 : (0 : Nat) + (1 : Nat) + (1 : Nat) + (1 : Nat) ≤ (16777216 : Nat) + (2 : Nat) :=
  linG [] [] [] (.nle (.a (.a (.a (.k 0) (.k 1)) (.k 1)) (.k 1)) (.a (.k 16777216) (.k 2))) [1] rfl
end Mine
end
-- LetB
section
theorem Mine.resetLetB : True := by (w_top off; trivial)
open PySem PySem.W PyProof.Rows
namespace Mine
noncomputable def NoLet : Prop := True
noncomputable def NoStore : Prop := True
theorem letQS {α : Type} {M : Model} {A : Around} {t : Sem α} {Q : α → Shared → Prop} {E : Value → Shared → Prop} {s : Shared} (h : let Q' := Q; let s' := s; wpAny M A t Q' E s') : wpAny M A t Q E s := h
theorem letQ {α : Type} {M : Model} {A : Around} {t : Sem α} {Q : α → Shared → Prop} {E : Value → Shared → Prop} {s : Shared} (h : let Q' := Q; wpAny M A t Q' E s) : wpAny M A t Q E s := h
section
variable {M : Model} {A : Around} {E : Value → Shared → Prop} {s : Shared} {h₀ : Heap} {L a : Addr} {m : Str → Option Value} {cn : Str} {cs : Scope} {ccd : Value} {cl : List (Str × Addr)}
  {x : Str} {v : Value} {Q : Unit → Shared → Prop} {news : List (Addr × Obj)} {g : Obj → List (Addr × Obj)} {c : Addr} {o : Obj} {v₀ : Option Value}
theorem storeLet (F : Fr h₀ L s.heap m) (N : News h₀ L s.heap news)
    (h : let m' := fun y => if y = x then some v else m y; ∀ h', Fr h₀ L h' m' → News h₀ L h' news → Q () { s with heap := h', toks := s.toks + 1 })
    (hk : cs.kind = .function) (hx : (envX cn cs L a ccd cl).kindOf x = some .local) : wpAny M A (storeName (envX cn cs L a ccd cl) x v) Q E s := storeX_L F N h hk hx
end
theorem ne_of_out {z x : Str} {l : List Str} (h : ¬ z ∈ l) (hx : x ∈ l) : z ≠ x := fun e => h (e ▸ hx)
theorem exE2 {T0 : Sort _} {T1 : Sort _} {p : T0 → T1 → Prop} {G : Prop} (h : ∃ a0 a1, p a0 a1) (k : ∀ a0 a1, p a0 a1 → G) : G := by
  obtain ⟨a0, a1, h⟩ := h
  exact k a0 a1 h
theorem exE3 {T0 : Sort _} {T1 : Sort _} {T2 : Sort _} {p : T0 → T1 → T2 → Prop} {G : Prop} (h : ∃ a0 a1 a2, p a0 a1 a2) (k : ∀ a0 a1 a2, p a0 a1 a2 → G) : G := by
  obtain ⟨a0, a1, a2, h⟩ := h
  exact k a0 a1 a2 h
theorem exE4 {T0 : Sort _} {T1 : Sort _} {T2 : Sort _} {T3 : Sort _} {p : T0 → T1 → T2 → T3 → Prop} {G : Prop} (h : ∃ a0 a1 a2 a3, p a0 a1 a2 a3) (k : ∀ a0 a1 a2 a3, p a0 a1 a2 a3 → G) : G := by
  obtain ⟨a0, a1, a2, a3, h⟩ := h
  exact k a0 a1 a2 a3 h
theorem exE5 {T0 : Sort _} {T1 : Sort _} {T2 : Sort _} {T3 : Sort _} {T4 : Sort _} {p : T0 → T1 → T2 → T3 → T4 → Prop} {G : Prop} (h : ∃ a0 a1 a2 a3 a4, p a0 a1 a2 a3 a4) (k : ∀ a0 a1 a2 a3 a4, p a0 a1 a2 a3 a4 → G) : G := by
  obtain ⟨a0, a1, a2, a3, a4, h⟩ := h
  exact k a0 a1 a2 a3 a4 h
theorem exE6 {T0 : Sort _} {T1 : Sort _} {T2 : Sort _} {T3 : Sort _} {T4 : Sort _} {T5 : Sort _} {p : T0 → T1 → T2 → T3 → T4 → T5 → Prop} {G : Prop} (h : ∃ a0 a1 a2 a3 a4 a5, p a0 a1 a2 a3 a4 a5) (k : ∀ a0 a1 a2 a3 a4 a5, p a0 a1 a2 a3 a4 a5 → G) : G := by
  obtain ⟨a0, a1, a2, a3, a4, a5, h⟩ := h
  exact k a0 a1 a2 a3 a4 a5 h
theorem exE7 {T0 : Sort _} {T1 : Sort _} {T2 : Sort _} {T3 : Sort _} {T4 : Sort _} {T5 : Sort _} {T6 : Sort _} {p : T0 → T1 → T2 → T3 → T4 → T5 → T6 → Prop} {G : Prop} (h : ∃ a0 a1 a2 a3 a4 a5 a6, p a0 a1 a2 a3 a4 a5 a6) (k : ∀ a0 a1 a2 a3 a4 a5 a6, p a0 a1 a2 a3 a4 a5 a6 → G) : G := by
  obtain ⟨a0, a1, a2, a3, a4, a5, a6, h⟩ := h
  exact k a0 a1 a2 a3 a4 a5 a6 h
theorem exE8 {T0 : Sort _} {T1 : Sort _} {T2 : Sort _} {T3 : Sort _} {T4 : Sort _} {T5 : Sort _} {T6 : Sort _} {T7 : Sort _} {p : T0 → T1 → T2 → T3 → T4 → T5 → T6 → T7 → Prop} {G : Prop} (h : ∃ a0 a1 a2 a3 a4 a5 a6 a7, p a0 a1 a2 a3 a4 a5 a6 a7) (k : ∀ a0 a1 a2 a3 a4 a5 a6 a7, p a0 a1 a2 a3 a4 a5 a6 a7 → G) : G := by
  obtain ⟨a0, a1, a2, a3, a4, a5, a6, a7, h⟩ := h
  exact k a0 a1 a2 a3 a4 a5 a6 a7 h
theorem anE3 {A0 A1 A2 G : Prop} (h : A0 ∧ A1 ∧ A2) (k : A0 → A1 → A2 → G) : G := by
  obtain ⟨h0, h1, h2⟩ := h
  exact k h0 h1 h2
theorem anE4 {A0 A1 A2 A3 G : Prop} (h : A0 ∧ A1 ∧ A2 ∧ A3) (k : A0 → A1 → A2 → A3 → G) : G := by
  obtain ⟨h0, h1, h2, h3⟩ := h
  exact k h0 h1 h2 h3
theorem anE5 {A0 A1 A2 A3 A4 G : Prop} (h : A0 ∧ A1 ∧ A2 ∧ A3 ∧ A4) (k : A0 → A1 → A2 → A3 → A4 → G) : G := by
  obtain ⟨h0, h1, h2, h3, h4⟩ := h
  exact k h0 h1 h2 h3 h4
theorem anE6 {A0 A1 A2 A3 A4 A5 G : Prop} (h : A0 ∧ A1 ∧ A2 ∧ A3 ∧ A4 ∧ A5) (k : A0 → A1 → A2 → A3 → A4 → A5 → G) : G := by
  obtain ⟨h0, h1, h2, h3, h4, h5⟩ := h
  exact k h0 h1 h2 h3 h4 h5
theorem anE7 {A0 A1 A2 A3 A4 A5 A6 G : Prop} (h : A0 ∧ A1 ∧ A2 ∧ A3 ∧ A4 ∧ A5 ∧ A6) (k : A0 → A1 → A2 → A3 → A4 → A5 → A6 → G) : G := by
  obtain ⟨h0, h1, h2, h3, h4, h5, h6⟩ := h
  exact k h0 h1 h2 h3 h4 h5 h6
theorem anE8 {A0 A1 A2 A3 A4 A5 A6 A7 G : Prop} (h : A0 ∧ A1 ∧ A2 ∧ A3 ∧ A4 ∧ A5 ∧ A6 ∧ A7) (k : A0 → A1 → A2 → A3 → A4 → A5 → A6 → A7 → G) : G := by
  obtain ⟨h0, h1, h2, h3, h4, h5, h6, h7⟩ := h
  exact k h0 h1 h2 h3 h4 h5 h6 h7
theorem anE9 {A0 A1 A2 A3 A4 A5 A6 A7 A8 G : Prop} (h : A0 ∧ A1 ∧ A2 ∧ A3 ∧ A4 ∧ A5 ∧ A6 ∧ A7 ∧ A8) (k : A0 → A1 → A2 → A3 → A4 → A5 → A6 → A7 → A8 → G) : G := by
  obtain ⟨h0, h1, h2, h3, h4, h5, h6, h7, h8⟩ := h
  exact k h0 h1 h2 h3 h4 h5 h6 h7 h8
end Mine
end
set_option compiler.extract_closed false
open PySem PySem.W PyProof.Rows PyProof.Rows.LCg Mine

local macro_rules | `(tactic| walk_at $s:str) => `(tactic| k_extra $s)
local macro_rules | `(tactic| k_all) => `(tactic| k_extra "kall")
local macro_rules | `(tactic| k_mem) => `(tactic| k_extra "kmem")
local macro_rules | `(tactic| omega) => `(tactic| k_extra "om")
-- F01
section
theorem Mine.resetF01 : True := by (w_top off; trivial)
open PySem PySem.W PyProof.Rows
set_option Elab.async false
set_option maxRecDepth 100000
set_option maxHeartbeats 8000000
namespace Mine
noncomputable def collF (x y : Str) : Int := b2i (decide (y.cps.toList < x.cps.toList)) - b2i (decide (x.cps.toList < y.cps.toList))
section
variable {w : World} {p : Program} {loose : List Str} {mean : ExcName → Option Value} {mg mb : Str → Option Value} {dp un : Nat} {gd : Option (List Code)} {A₀ : Around} {env : Env} {outer : List Env} {base h₀ : Heap} {L : Addr} {m : Str → Option Value} {news : List (Addr × Obj)} {s : Shared} {R : Result → Shared → Prop}
theorem strcoll_code {x y : Str} {tx ty : Tok} (B : Below A₀ base outer h₀) (F : Fr h₀ L s.heap m) (X : (hd.heap_39 w.params).In h₀) (N : News h₀ L s.heap news) (T : Top p loose mean mg mb h₀)
    (hf : env.frame = some L) (hke : env.scope.kind = .function) (hroom : dp < recursionLimit)
    (ret : ∀ t h' tk', Fr h₀ L h' m → News h₀ L h' news → R (.ok (.ret (.int (collF x y) t))) { s with heap := h', toks := tk' }) :
    codeAny (model PySem.Challenge.rw_rs0134_01.row.prog w) (Ar dp un gd env outer) (.call (.ref 28) ⟨[.str x tx, .str y ty], []⟩) R s := by
  k_with "execs cons" => (k_here; (fail_if_success with_reducible (rename Mine.NoLet => kL)); (with_reducible refine wpAny_execs_cons ?_); (try dsimp only); refine Mine.letQS ?_; intro _ _)
  k_with "storeName" => (k_here; (fail_if_success with_reducible (rename Mine.NoStore => kL)); k_dflt (refine' Mine.storeLet (by k_asm) (by k_asm) ?_ (by rfl) (by rfl); k_whole; intro _ _ _ _; (try k_sweep)))
  k_with "off" => (intro _; intros; repeat (first | exact rfl | (refine Eq.trans (if_neg (by first | assumption | (refine' Mine.ne_of_out (by assumption) (by repeat (first | with_reducible exact List.mem_cons_self | refine List.mem_cons_of_mem _ ?_))))) ?_)))
  k_with "enter" => (refine' code_def ?enk1 ?enk2 ?enk3 ?enk4 ?enk5 ?enkA ?enkF ?enkK ?enk6 ?enk7 ?enk8 ?enk9 ?enkB ?_ ?enc2 ?enc3 ?enc4 ?enc5; (case enkA => exact rfl); (case enkF => assumption); (case enkK => assumption); (case enk1 => k_asm); (case enk2 => k_asm); (case enk3 => k_asm); (case enk4 => k_asm); (case enk5 => k_asm); (case enk6 => k_is); (case enk7 => k_is); (case enk8 => first | assumption | (show _ < recursionLimit; dsimp only; omega) | ktr_room); (case enk9 => exact BindsTo.of_eq rfl); (case enc5 => decide); (case enkB => exact locs rfl); (case enc2 => exact rfl); (case enc3 => exact rfl); (case enc4 => exact rfl); k_whole; intro _ _ _ _ _ _ _ _ _; (try dsimp only); (try k_fold))
  revert X; k_fill; intro X
  k_dflt (k_extra "enter")
  k_steps
  exact ret _ _ _ (by k_asm) (by k_asm)
end
end Mine
end
-- Loop
section
theorem Mine.resetLoop : True := by (w_top off; trivial)
open PySem PySem.W PyProof.Rows
set_option Elab.async false
set_option maxRecDepth 100000
set_option maxHeartbeats 8000000
namespace Mine
noncomputable def Hold (P : Prop) : Prop := P
theorem Hold.mk {P : Prop} (h : Hold P) : P := h
theorem all_ne_of_lt {l : List (Addr × Obj)} {d : Addr} (h : ∀ p ∈ l, p.1 < d) : ∀ p ∈ l, p.1 ≠ d := fun p hp => Nat.ne_of_lt (h p hp)
theorem all_ne_app {l own : List (Addr × Obj)} {d : Addr} (h : ∀ p ∈ l, p.1 < d) (h' : ∀ p ∈ own, p.1 ≠ d) : ∀ p ∈ l ++ own, p.1 ≠ d :=
  fun p hp => (List.mem_append.mp hp).elim (fun q => Nat.ne_of_lt (h p q)) (h' p)
theorem ownOff_cons {own l : List (Addr × Obj)} {d : Addr} {o : Obj} (h : ∀ p ∈ own, p.1 ≠ d) (h' : OwnOff own (l.map (·.1))) : OwnOff own (((d, o) :: l).map (·.1)) :=
  fun p hp b hb => (List.mem_cons.mp hb).elim (fun e => e ▸ h p hp) (h' p hp b)
theorem ownOff_tail {own l : List (Addr × Obj)} {q : Addr × Obj} (h : OwnOff own ((q :: l).map (·.1))) : OwnOff own (l.map (·.1)) := fun p hp b hb => h p hp b (List.mem_cons.mpr (.inr hb))
theorem ownOff_head {own l : List (Addr × Obj)} {d : Addr} {o : Obj} (h : OwnOff own (((d, o) :: l).map (·.1))) : ∀ p ∈ own, p.1 ≠ d := fun p hp => h p hp d (List.mem_cons.mpr (.inl rfl))
/-- where a break stands: the heap, the names, the ledger -/
inductive BrkEnd (h₀ : Heap) (L : Addr) (J : (Str → Option Value) → List (Addr × Obj) → Prop) (s₁ s₂ : Shared) : Prop
  | mk : ∀ (h' : Heap) (tk : Nat) (m' : Str → Option Value) (nx : List (Addr × Obj)), s₂ = { s₁ with heap := h', toks := tk } → Fr h₀ L h' m' → News h₀ L h' nx → J m' nx → BrkEnd h₀ L J s₁ s₂
noncomputable def brkQ (a : Shared → Prop) (Q : Flow → Shared → Prop) (f : Flow) (s : Shared) : Prop := match f with
  | .next => a s
  | f => Q f s
/-- a map of names turned at the names of a list -/
noncomputable def over : List (Str × Option Value) → (Str → Option Value) → Str → Option Value
  | [], m, z => m z
  | (x, v) :: r, m, z => if z = x then v else over r m z
theorem over_self (names : List Str) (m₁ m₀ : Str → Option Value) (x : Str) (v : Option Value) (h : ∀ z, z ≠ x → z ∉ names → m₁ z = m₀ z) :
    (fun z => if z = x then v else m₁ z) = fun z => if z = x then v else over (names.map fun y => (y, m₁ y)) m₀ z := by
  funext z
  by_cases hx : z = x
  · simp [hx]
  · simp only [if_neg hx]
    have key : ∀ l : List Str, (∀ y, y ∈ names → y ∈ l ∨ z ≠ y) → m₁ z = over (l.map fun y => (y, m₁ y)) m₀ z := by
      intro l
      induction l with
      | nil =>
        intro hl
        exact h z hx fun hm => (hl z hm).elim (fun q => nomatch q) fun q => q rfl
      | cons y r ih =>
        intro hl
        show m₁ z = if z = y then m₁ y else over (r.map fun y => (y, m₁ y)) m₀ z
        by_cases hy : z = y
        · rw [if_pos hy, hy]
        · rw [if_neg hy]
          refine ih fun u hu => (hl u hu).elim (fun q => ?_) .inr
          rcases List.mem_cons.mp q with rfl | q
          · exact .inr hy
          · exact .inl q
    exact key names fun y hy => .inl hy
section
variable {prog : Program} {w : World} {A : Around} {E : Value → Shared → Prop} {s : Shared} {env : Env} {h₀ : Heap} {x : Str} {body : List Stmt} {Q : Flow → Shared → Prop}
theorem walk_sep {h₀ hh' : Heap} {L : Addr} {fp wr : List Addr} {own news₁ : List (Addr × Obj)} (hfp : ∀ b ∈ fp, b ∈ wr ∨ ∃ o, h₀.get? b = some o) (hoff : ∀ p ∈ news₁, p.1 ∉ wr) (hown : ∀ p ∈ own, p.1 ∈ fp) (N₁ : News h₀ L hh' (own ++ news₁)) : OwnOff own (news₁.map (·.1)) := by
  intro p hp b hb e
  obtain ⟨q, hq, rfl⟩ := List.mem_map.mp hb
  rcases hfp _ (hown p hp) with h1 | ⟨o, h1⟩
  · exact hoff q hq (e ▸ h1)
  · have h3 := (N₁ q (List.mem_append.mpr (.inr hq))).2.2
    rw [← e, h1] at h3
    cases h3
theorem walk_fin {h₀ : Heap} {L : Addr} {wr : List Addr} {own : List (Addr × Obj)} {J : (Str → Option Value) → List (Addr × Obj) → Prop} {s₁ s₂ : Shared} (hI : ∀ b ∈ wr, ∃ o, (b, o) ∈ own) (h : InvEndG h₀ L J own s₁ s₂) : LoopStepU h₀ L wr own J s₁ .next s₂ := by
  obtain ⟨h', tk, m', news', nx, e, F', N', hn, ho, ha, hm'⟩ := h
  refine ⟨rfl, h', tk, m', nx, e, F', fun p hp => N' p ((List.mem_append.mp hp).elim (ho p) (hn p)), fun p hp hq => ?_, hm'⟩
  obtain ⟨o, ho'⟩ := hI p.1 hq
  exact ha _ ho' p.1 (List.mem_map.mpr ⟨p, hp, rfl⟩) rfl
theorem over_same (names : List Str) (m₁ m₀ : Str → Option Value) (x : Str) (hm : ∀ z, z ≠ x → z ∉ names → m₁ z = m₀ z) : m₁ = fun z => if z = x then m₁ x else over (names.map fun y => (y, m₁ y)) m₀ z := by
  rw [← over_self names m₁ m₀ x (m₁ x) hm]
  funext z
  by_cases hz : z = x
  · rw [if_pos hz, hz]
  · rw [if_neg hz]
/-- a loop over any walk, by what holds of the named names and of the ledger -/
theorem walkLoopQ {I : Addr} {fp wr : List Addr} {n : Nat} {P : Nat → Value → Prop} {St : Nat → Heap → Prop} {m₀ : Str → Option Value} {news : List (Addr × Obj)} (names : List Str)
    (J : Nat → (Str → Option Value) → List (Addr × Obj) → Prop) (Q' : Heap → Nat → Flow → Shared → Prop)
    (W : Walks prog w A I fp wr n P St) (hLf : env.locals ∉ fp) (hwr : ∀ b ∈ wr, h₀.get? b = none) (hnw : ∀ p ∈ news, p.1 ∉ wr) (hfp : ∀ b ∈ fp, b ∈ wr ∨ ∃ o, h₀.get? b = some o)
    (hin : ∀ i h, St i h → ∀ b ∈ wr, ∃ o, h.get? b = some o) (hst : St 0 s.heap) (F : Fr h₀ env.locals s.heap m₀) (N : News h₀ env.locals s.heap news) (hj : J 0 m₀ news)
    (turn : ∀ i v m₁ news₁ h tk own, i < n → P i v → (∀ b ∈ wr, ∃ o, (b, o) ∈ own) → OwnOff own (news₁.map (·.1)) → J i m₁ news₁ →
      Fr h₀ env.locals h (fun z => if z = x then some v else over (names.map fun y => (y, m₁ y)) m₀ z) → News h₀ env.locals h (news₁ ++ own) →
      wpAny (model prog w) A (execs body env) (InvPostG h₀ env.locals (fun m' nx => J (i + 1) m' nx ∧ ∀ z, z ≠ x → z ∉ names → m' z = m₀ z) own { s with heap := h, toks := tk } (Q' h tk)) E { s with heap := h, toks := tk })
    (done : ∀ m₁ news₁ h tk, J n m₁ news₁ → Fr h₀ env.locals h (fun z => if z = x then m₁ x else over (names.map fun y => (y, m₁ y)) m₀ z) → News h₀ env.locals h news₁ → Q .next { s with heap := h, toks := tk })
    (brk_ : ∀ h tk s₂, Q' h tk .next s₂ → Q .next s₂) (ret_ : ∀ h tk v s₂, Q' h tk (.ret v) s₂ → Q (.ret v) s₂) :
    LoopAtV prog w A h₀ env x body Q E (.ref I) s := by
  refine ⟨I, fp, wr, n, P, St, m₀, news, fun i m nx => J i m nx ∧ ∀ z, z ≠ x → z ∉ names → m z = m₀ z, rfl, W, hLf, hwr, hnw, hst, F, N, ⟨hj, fun _ _ _ => rfl⟩, ?_, ?_⟩
  · rintro i v m₁ news₁ s₁ own ⟨hh', tk', rfl⟩ hlt hP ⟨hJ, hm⟩ hoff hown _ hall hst' F₁ N₁
    have hI : ∀ b ∈ wr, ∃ o, (b, o) ∈ own := fun b hb => by
      obtain ⟨o, ho⟩ := hin _ _ hst' b hb
      exact ⟨o, hall b (W.sub b hb) (hwr b hb) o ho⟩
    rw [over_self names m₁ m₀ x (some v) hm] at F₁
    refine wpAny_mono (turn i v m₁ news₁ hh' tk' own hlt hP hI (walk_sep hfp hoff hown N₁) hJ F₁ (fun p hp => N₁ p ((List.mem_append.mp hp).elim (fun h => List.mem_append.mpr (.inr h)) fun h => List.mem_append.mpr (.inl h)))) (fun f s₂ p => ?_) fun _ _ e => e
    cases f with
    | ret v => exact .ret (ret_ _ _ _ _ p)
    | brk => exact .brk (brk_ _ _ _ p)
    | next => exact .next (walk_fin hI p)
    | cont => exact .cont (walk_fin hI p)
  · rintro h tk m₁ news₁ F₁ N₁ _ ⟨hJ, hm⟩
    exact done m₁ news₁ h tk hJ (over_same names m₁ m₀ x hm ▸ F₁) N₁
theorem walkLoop {I : Addr} {fp wr : List Addr} {n : Nat} {P : Nat → Value → Prop} {St : Nat → Heap → Prop} {m₀ : Str → Option Value} {news : List (Addr × Obj)} (names : List Str)
    (J : Nat → (Str → Option Value) → List (Addr × Obj) → Prop)
    (W : Walks prog w A I fp wr n P St) (hLf : env.locals ∉ fp) (hwr : ∀ b ∈ wr, h₀.get? b = none) (hnw : ∀ p ∈ news, p.1 ∉ wr) (hfp : ∀ b ∈ fp, b ∈ wr ∨ ∃ o, h₀.get? b = some o)
    (hin : ∀ i h, St i h → ∀ b ∈ wr, ∃ o, h.get? b = some o) (hst : St 0 s.heap) (F : Fr h₀ env.locals s.heap m₀) (N : News h₀ env.locals s.heap news) (hj : J 0 m₀ news)
    (turn : ∀ i v m₁ news₁ h tk own, i < n → P i v → (∀ b ∈ wr, ∃ o, (b, o) ∈ own) → OwnOff own (news₁.map (·.1)) → J i m₁ news₁ →
      Fr h₀ env.locals h (fun z => if z = x then some v else over (names.map fun y => (y, m₁ y)) m₀ z) → News h₀ env.locals h (news₁ ++ own) →
      wpAny (model prog w) A (execs body env) (InvPostG h₀ env.locals (fun m' nx => J (i + 1) m' nx ∧ ∀ z, z ≠ x → z ∉ names → m' z = m₀ z) own { s with heap := h, toks := tk } Q) E { s with heap := h, toks := tk })
    (done : ∀ m₁ news₁ h tk, J n m₁ news₁ → Fr h₀ env.locals h (fun z => if z = x then m₁ x else over (names.map fun y => (y, m₁ y)) m₀ z) → News h₀ env.locals h news₁ → Q .next { s with heap := h, toks := tk }) :
    LoopAtV prog w A h₀ env x body Q E (.ref I) s :=
  walkLoopQ names J (fun _ _ => Q) W hLf hwr hnw hfp hin hst F N hj turn done (fun _ _ _ h => h) fun _ _ _ _ h => h
/-- the same with a break: what holds there goes on as at the end -/
theorem walkLoopB {I : Addr} {fp wr : List Addr} {n : Nat} {P : Nat → Value → Prop} {St : Nat → Heap → Prop} {m₀ : Str → Option Value} {news : List (Addr × Obj)} (names : List Str)
    (J : Nat → (Str → Option Value) → List (Addr × Obj) → Prop) (Bk : (Str → Option Value) → List (Addr × Obj) → Prop)
    (W : Walks prog w A I fp wr n P St) (hLf : env.locals ∉ fp) (hwr : ∀ b ∈ wr, h₀.get? b = none) (hnw : ∀ p ∈ news, p.1 ∉ wr) (hfp : ∀ b ∈ fp, b ∈ wr ∨ ∃ o, h₀.get? b = some o)
    (hin : ∀ i h, St i h → ∀ b ∈ wr, ∃ o, h.get? b = some o) (hst : St 0 s.heap) (F : Fr h₀ env.locals s.heap m₀) (N : News h₀ env.locals s.heap news) (hj : J 0 m₀ news)
    (turn : ∀ i v m₁ news₁ h tk own, i < n → P i v → (∀ b ∈ wr, ∃ o, (b, o) ∈ own) → OwnOff own (news₁.map (·.1)) → J i m₁ news₁ →
      Fr h₀ env.locals h (fun z => if z = x then some v else over (names.map fun y => (y, m₁ y)) m₀ z) → News h₀ env.locals h (news₁ ++ own) →
      wpAny (model prog w) A (execs body env) (InvPostG h₀ env.locals (fun m' nx => J (i + 1) m' nx ∧ ∀ z, z ≠ x → z ∉ names → m' z = m₀ z) own { s with heap := h, toks := tk } (brkQ (BrkEnd h₀ env.locals (fun m' nx => Bk m' nx ∧ ∀ z, z ≠ x → z ∉ names → m' z = m₀ z) { s with heap := h, toks := tk }) Q)) E { s with heap := h, toks := tk })
    (done : ∀ m₁ news₁ h tk, J n m₁ news₁ ∨ Bk m₁ news₁ → Fr h₀ env.locals h (fun z => if z = x then m₁ x else over (names.map fun y => (y, m₁ y)) m₀ z) → News h₀ env.locals h news₁ → Q .next { s with heap := h, toks := tk }) :
    LoopAtV prog w A h₀ env x body Q E (.ref I) s :=
  walkLoopQ names J (fun h tk => brkQ (BrkEnd h₀ env.locals (fun m' nx => Bk m' nx ∧ ∀ z, z ≠ x → z ∉ names → m' z = m₀ z) { s with heap := h, toks := tk }) Q) W hLf hwr hnw hfp hin hst F N hj turn (fun m₁ news₁ h tk hJ => done m₁ news₁ h tk (.inl hJ))
    (fun h tk s₂ p => by
      obtain ⟨h', tk', m', nx, rfl, F', N', hB, hm'⟩ := (show BrkEnd _ _ _ _ s₂ from p)
      exact done m' nx h' tk' (.inr hB) (over_same names m' m₀ x hm' ▸ F') N') fun _ _ _ _ h => h
theorem rangeLoop {r : Addr} {a₀ b₀ : Int} {t₀ u₀ v₀ : Tok} (n : Nat) {m₀ : Str → Option Value} {news : List (Addr × Obj)} (names : List Str)
    (J : Nat → (Str → Option Value) → List (Addr × Obj) → Prop)
    (hh : A.handled = none) (hr : IsRange s.heap r a₀ b₀ 1 t₀ u₀ v₀) (hsmall : Builtin.Range.small a₀ b₀ 1 = true) (hn : Builtin.Range.rangeSize a₀ b₀ 1 = (n : Int)) (F : Fr h₀ env.locals s.heap m₀) (N : News h₀ env.locals s.heap news) (hj : J 0 m₀ news)
    (turn : ∀ (i : Nat) t m₁ news₁ h tk own, i < n → (∃ I o, (I, o) ∈ own ∧ ∀ p ∈ news, p.1 < I) → OwnOff own (news₁.map (·.1)) → J i m₁ news₁ →
      Fr h₀ env.locals h (fun z => if z = x then some (.int (a₀ + i) t) else over (names.map fun y => (y, m₁ y)) m₀ z) → News h₀ env.locals h (news₁ ++ own) →
      wpAny (model prog w) A (execs body env) (InvPostG h₀ env.locals (fun m' nx => J (i + 1) m' nx ∧ ∀ z, z ≠ x → z ∉ names → m' z = m₀ z) own { s with heap := h, toks := tk } Q) E { s with heap := h, toks := tk })
    (done : ∀ m₁ news₁ h tk, J n m₁ news₁ → Fr h₀ env.locals h (fun z => if z = x then m₁ x else over (names.map fun y => (y, m₁ y)) m₀ z) → News h₀ env.locals h news₁ → Q .next { s with heap := h, toks := tk }) :
    wpAny (model prog w) A (pyIter (.ref r)) (fun it s₂ => LoopAtV prog w A h₀ env x body Q E it s₂) E s := by
  refine wpAny_pyIter_range hr hsmall ?_
  have W : Walks prog w A s.heap.objs.size [s.heap.objs.size] [s.heap.objs.size] n (fun i v => i < n ∧ ∃ t, v = .int (a₀ + i * 1) t)
      (fun i h => IsRangeIter h s.heap.objs.size (a₀ + (i : Nat) * 1) ((n : Int) - (i : Nat)) 1) := (Walks.range hh _ a₀ 1 n).bound
  refine walkLoop names J W ?_ ?_ ?_ ?_ ?_ (by show IsRangeIter _ _ _ _ _; rw [hn]; simpa using Heap.get?_push_size _ rfl) (F.push _) (fun p hp => ⟨Heap.get?_push_of_some _ (N p hp).1, (N p hp).2⟩) hj ?_ ?_
  · intro hm
    exact absurd F.ns.lt ((List.mem_singleton.mp hm) ▸ Nat.lt_irrefl _)
  · intro b hb
    rw [List.mem_singleton.mp hb]
    exact next_is_new F
  · intro p hp hI
    exact absurd (Heap.lt_size (N p hp).1) ((List.mem_singleton.mp hI) ▸ Nat.lt_irrefl _)
  · intro b hb
    exact .inl hb
  · intro i h hst b hb
    rw [List.mem_singleton.mp hb]
    exact ⟨_, hst⟩
  · rintro i v m₁ news₁ h tk own hin ⟨_, t, rfl⟩ hI hoff hJ F₁ N₁
    rw [Int.mul_one] at F₁
    obtain ⟨o, ho⟩ := hI _ (List.mem_singleton.mpr rfl)
    exact turn i t m₁ news₁ h tk own hin ⟨_, o, ho, fun p hp => Heap.lt_size (N p hp).1⟩ hoff hJ F₁ N₁
  · exact done
theorem strLoopB {y : Str} {t₀ : Tok} {m₀ : Str → Option Value} {news : List (Addr × Obj)} (names : List Str)
    (J : Nat → (Str → Option Value) → List (Addr × Obj) → Prop) (Bk : (Str → Option Value) → List (Addr × Obj) → Prop)
    (hh : A.handled = none) (F : Fr h₀ env.locals s.heap m₀) (N : News h₀ env.locals s.heap news) (hj : J 0 m₀ news)
    (turn : ∀ (i : Nat) c u m₁ news₁ h tk own, i < y.cps.size → y.cps[i]? = some c → (∃ I o, (I, o) ∈ own ∧ ∀ p ∈ news, p.1 < I) → OwnOff own (news₁.map (·.1)) → J i m₁ news₁ →
      Fr h₀ env.locals h (fun z => if z = x then some (.str ⟨#[c]⟩ u) else over (names.map fun y => (y, m₁ y)) m₀ z) → News h₀ env.locals h (news₁ ++ own) →
      wpAny (model prog w) A (execs body env) (InvPostG h₀ env.locals (fun m' nx => J (i + 1) m' nx ∧ ∀ z, z ≠ x → z ∉ names → m' z = m₀ z) own { s with heap := h, toks := tk } (brkQ (BrkEnd h₀ env.locals (fun m' nx => Bk m' nx ∧ ∀ z, z ≠ x → z ∉ names → m' z = m₀ z) { s with heap := h, toks := tk }) Q)) E { s with heap := h, toks := tk })
    (done : ∀ m₁ news₁ h tk, J y.cps.size m₁ news₁ ∨ Bk m₁ news₁ → Fr h₀ env.locals h (fun z => if z = x then m₁ x else over (names.map fun y => (y, m₁ y)) m₀ z) → News h₀ env.locals h news₁ → Q .next { s with heap := h, toks := tk }) :
    wpAny (model prog w) A (pyIter (.str y t₀)) (fun it s₂ => LoopAtV prog w A h₀ env x body Q E it s₂) E s := by
  have key : ∀ (o : Obj) (St : Nat → Heap → Prop), o.isFreed = false → Walks prog w A s.heap.objs.size [s.heap.objs.size] [s.heap.objs.size] y.cps.size (SignAt y) St → (∀ i h, St i h → ∃ o, h.get? s.heap.objs.size = some o) → St 0 (s.heap.push o) →
      LoopAtV prog w A h₀ env x body Q E (.ref s.heap.objs.size) { s with heap := s.heap.push o } := by
    intro o St hfr W hin hst
    refine walkLoopB names J Bk W ?_ ?_ ?_ ?_ ?_ hst (F.push _) (fun p hp => ⟨Heap.get?_push_of_some _ (N p hp).1, (N p hp).2⟩) hj ?_ ?_
    · intro hm
      exact absurd F.ns.lt ((List.mem_singleton.mp hm) ▸ Nat.lt_irrefl _)
    · intro b hb
      rw [List.mem_singleton.mp hb]
      exact next_is_new F
    · intro p hp hI
      exact absurd (Heap.lt_size (N p hp).1) ((List.mem_singleton.mp hI) ▸ Nat.lt_irrefl _)
    · intro b hb
      exact .inl hb
    · intro i h hst b hb
      rw [List.mem_singleton.mp hb]
      exact hin i h hst
    · rintro i v m₁ news₁ h tk own hlt ⟨c, u, hc, rfl⟩ hI hoff hJ F₁ N₁
      obtain ⟨o, ho⟩ := hI _ (List.mem_singleton.mpr rfl)
      exact turn i c u m₁ news₁ h tk own hlt hc ⟨_, o, ho, fun p hp => Heap.lt_size (N p hp).1⟩ hoff hJ F₁ N₁
    · exact done
  cases ha : y.cps.all (· < 128)
  · exact wpAny_pyIter_wide ha (key _ _ rfl (Walks.strWide hh _ y t₀) (fun i h st => let ⟨o, ho, _⟩ := st; ⟨o, ho⟩) ⟨_, Heap.get?_push_size _ rfl, rfl, rfl⟩)
  · exact wpAny_pyIter_ascii ha (key _ _ rfl (Walks.strAscii hh _ y t₀) (fun i h st => let ⟨o, ho, _⟩ := st; ⟨o, ho⟩) ⟨_, Heap.get?_push_size _ rfl, rfl, rfl⟩)
/-- a while by what holds of the named names and of the ledger -/
theorem whileInv {test : Expr} {pos : Pos} {m₀ : Str → Option Value} {news : List (Addr × Obj)} (names : List Str) (J : Nat → (Str → Option Value) → List (Addr × Obj) → Prop) {n₀ : Nat} {L : Addr}
    (F : Fr h₀ L s.heap m₀) (N : News h₀ L s.heap news) (hJ : J n₀ m₀ news)
    (turn : ∀ n m₁ news₁ h₁ tk₁, Fr h₀ L h₁ (over (names.map fun y => (y, m₁ y)) m₀) → News h₀ L h₁ news₁ → J n m₁ news₁ →
      wpAny (model prog w) A (isTrue test env (eval test env)) (fun b s₂ =>
        if b = true then wpAny (model prog w) A (execs body env) (WhileStep h₀ L s (fun n' m' nx => J n' m' nx ∧ ∀ z, z ∉ names → m' z = m₀ z) n) E s₂ else Q .next s₂) E { s with heap := h₁, toks := tk₁ })
    (hE : PassesOwn (model prog w) A env E := by passes_own) :
    wpAny (model prog w) A (exec (.While test body [] pos) env) Q E s := by
  refine While_inv (fun n m nx => J n m nx ∧ ∀ z, z ∉ names → m z = m₀ z) F N ⟨hJ, fun _ _ => rfl⟩ ?_ hE
  rintro n m₁ news₁ h₁ tk₁ F₁ N₁ ⟨hJ₁, hm⟩
  refine turn n m₁ news₁ h₁ tk₁ ?_ N₁ hJ₁
  have e : m₁ = over (names.map fun y => (y, m₁ y)) m₀ := by
    funext z
    have key : ∀ l : List Str, (∀ y, y ∈ names → y ∈ l ∨ z ≠ y) → m₁ z = over (l.map fun y => (y, m₁ y)) m₀ z := by
      intro l
      induction l with
      | nil =>
        intro hl
        exact hm z fun hz => (hl z hz).elim (fun q => nomatch q) fun q => q rfl
      | cons y r ih =>
        intro hl
        show m₁ z = if z = y then m₁ y else over (r.map fun y => (y, m₁ y)) m₀ z
        by_cases hy : z = y
        · rw [if_pos hy, hy]
        · rw [if_neg hy]
          refine ih fun u hu => (hl u hu).elim (fun q => ?_) .inr
          rcases List.mem_cons.mp q with rfl | q
          · exact .inr hy
          · exact .inl q
    exact key names fun y hy => .inl hy
  rw [← e]
  exact F₁
end
end Mine
end
-- F02
section
theorem Mine.resetF02 : True := by (w_top off; trivial)
open PySem PySem.W PyProof.Rows
set_option Elab.async false
set_option maxRecDepth 100000
set_option maxHeartbeats 8000000
namespace Mine
/-- the i-th label and the last one may not stand together -/
noncomputable def clash (below : List (List Int)) (tabs : List Int) (labels : Str) (i : Nat) : Bool :=
  let b : Int := if tabs.getD (i : Int).toNat 0 = tabs.getD ((labels.length : Int) - 1).toNat 0 then 1 else 0
  ((below.getD (labels.length - 1) []).any (fun x => x == (i : Int)) && decide (b ≤ collF (Txt.item labels i) (Txt.item labels ((labels.length : Int) - 1)))) ||
    ((below.getD i []).any (fun x => x == (labels.length : Int) - 1) && decide (b ≤ collF (Txt.item labels ((labels.length : Int) - 1)) (Txt.item labels i)))
noncomputable def fitsF (below : List (List Int)) (tabs : List Int) (labels : Str) : Bool := (List.range (labels.length - 1)).all fun i => !clash below tabs labels i
section
variable {below : List (List Int)} {tabs : List Int} {labels : Str} {i : Nat}
theorem clash_no {b : Int} (hb : (tabs.getD (i : Int).toNat 0 = tabs.getD ((labels.length : Int) - 1).toNat 0 ∧ b = 1) ∨ (¬ tabs.getD (i : Int).toNat 0 = tabs.getD ((labels.length : Int) - 1).toNat 0 ∧ b = 0))
    (h1 : ((below.getD (labels.length - 1) []).any (fun x => x == (i : Int))) = false ∨ ¬ b ≤ collF (Txt.item labels i) (Txt.item labels ((labels.length : Int) - 1)))
    (h2 : ((below.getD i []).any (fun x => x == (labels.length : Int) - 1)) = false ∨ ¬ b ≤ collF (Txt.item labels ((labels.length : Int) - 1)) (Txt.item labels i)) : clash below tabs labels i = false := by
  unfold clash
  rcases hb with ⟨e, rfl⟩ | ⟨e, rfl⟩
  all_goals
    simp only [e, if_true, if_false]
    rcases h1 with h1 | h1 <;> rcases h2 with h2 | h2 <;> simp only [h1, h2, decide_false, Bool.false_and, Bool.and_false, Bool.or_false]
theorem clash_yes {b : Int} (hb : (tabs.getD (i : Int).toNat 0 = tabs.getD ((labels.length : Int) - 1).toNat 0 ∧ b = 1) ∨ (¬ tabs.getD (i : Int).toNat 0 = tabs.getD ((labels.length : Int) - 1).toNat 0 ∧ b = 0))
    (h : (((below.getD (labels.length - 1) []).any (fun x => x == (i : Int))) = true ∧ b ≤ collF (Txt.item labels i) (Txt.item labels ((labels.length : Int) - 1))) ∨
      (((below.getD i []).any (fun x => x == (labels.length : Int) - 1)) = true ∧ b ≤ collF (Txt.item labels ((labels.length : Int) - 1)) (Txt.item labels i))) : clash below tabs labels i = true := by
  unfold clash
  rcases hb with ⟨e, rfl⟩ | ⟨e, rfl⟩
  all_goals
    simp only [e, if_true, if_false]
    rcases h with ⟨h1, h2⟩ | ⟨h1, h2⟩ <;> simp only [h1, h2, decide_true, Bool.true_and, Bool.and_true, Bool.or_true, Bool.true_or]
theorem fits_false (hi : i < labels.length - 1) (h : clash below tabs labels i = true) : fitsF below tabs labels = false := by
  unfold fitsF
  rw [List.all_eq_false]
  exact ⟨i, List.mem_range.mpr hi, by simp [h]⟩
theorem fits_true (h : ∀ i < labels.length - 1, clash below tabs labels i = false) : fitsF below tabs labels = true := by
  unfold fitsF
  rw [List.all_eq_true]
  intro i hi
  simp [h i (List.mem_range.mp hi)]
end
section
variable {w : World} {p : Program} {loose : List Str} {mean : ExcName → Option Value} {mg mb : Str → Option Value} {dp un : Nat} {gd : Option (List Code)} {A₀ : Around} {env : Env} {outer : List Env} {base h₀ : Heap} {L : Addr} {m : Str → Option Value} {news : List (Addr × Obj)} {s : Shared} {R : Result → Shared → Prop}
theorem fits_code {ab at_ : Addr} {bvs tvs : List Value} {nb nt : Nat} {below : List (List Int)} {tabs : List Int} {labels : Str} {tl : Tok} (B : Below A₀ base outer h₀) (F : Fr h₀ L s.heap m) (X : (hd.heap_39 w.params).In h₀) (N : News h₀ L s.heap news) (T : Top p loose mean mg mb h₀)
    (hf : env.frame = some L) (hke : env.scope.kind = .function) (hroom : dp + 1 < recursionLimit)
    (hlen : labels.length < 100) (hlen0 : 0 < labels.length) (hb : (ab, listOf bvs.toArray nb) ∈ news) (ht : (at_, listOf tvs.toArray nt) ∈ news) (hI : IntsAre tvs tabs) (hkt : labels.length ≤ tabs.length) (hbl : bvs.length = below.length) (hkb : labels.length ≤ below.length)
    (hrow : ∀ i v, bvs[i]? = some v → ∃ r vs n, v = .ref r ∧ (r, listOf vs.toArray n) ∈ news ∧ IntsAre vs (below.getD i []))
    (ret : ∀ h' tk', Fr h₀ L h' m → News h₀ L h' news → R (.ok (.ret (.bool (fitsF below tabs labels)))) { s with heap := h', toks := tk' }) :
    codeAny (model PySem.Challenge.rw_rs0134_01.row.prog w) (Ar dp un gd env outer) (.call (.ref 181) ⟨[.ref ab, .ref at_, .str labels tl], []⟩) R s := by
  k_with "InvEndG" => (refine Hold.mk ?_)
  k_with "pyIter ref" => (refine Hold.mk ?_)
  k_with "call ref" => (k_here; (with_reducible show wpAny _ _ (call (Value.ref 28) _) _ _ _); (with_reducible refine wpAny_call (strcoll_code (by k_asm) (by k_asm) (by k_asm) (by k_asm) (by k_asm) rfl rfl (by first | assumption | (dsimp only [Around.deeper]; omega)) ?_)); intro _ _ _ _ _; (try dsimp only))
  k_with "exec For Name Call cons nil" => (refine Hold.mk ?_)
  k_with "call builtin:len" => (k_here; (with_reducible show wpAny _ _ (call (Value.builtin "len") [Value.str _ _]) _ _ _); refine len_str (by omega) ?_)
  k_with "subscriptTail" => (k_here; (with_reducible show wpAny _ _ (subscriptTail _ _ (Value.ref _) (Value.int _ _)) _ _ _); (with_reducible refine item_litK (News.isList (by k_asm) (by with_reducible k_mem)) (by omega) (by omega) (by with_reducible assumption) ?_))
  k_with "compareOp In int ref" => (k_here; refine in_list_ints (News.isList (by k_asm) (by k_mem)) (by assumption) ?_)
  k_with "om" => with_reducible first | exact Mine.om61 (by assumption) (by assumption) | exact Mine.om63 (by assumption) (by assumption) | exact Mine.om68 (by assumption) | exact Mine.om85 (by assumption) | exact Mine.om101 | exact Mine.om223 (by assumption) (by assumption) | exact Mine.om224 (by assumption) | exact Mine.om247 (by assumption) (by assumption) (by assumption) | exact Mine.om55 | exact Mine.om132 (by assumption) (by assumption) | exact Mine.om343 (by assumption) (by assumption) | exact Mine.om344 | exact Mine.om373 (by assumption) | exact Mine.om381 | exact Mine.om400 | exact Mine.om401 (by assumption) | exact Mine.om402 (by assumption) | exact Mine.om404 (by assumption) | exact Mine.om417 (by assumption) | exact Mine.om64 (by assumption) | exact Mine.om477 (by assumption) | exact Mine.om271 | exact Mine.om510 | exact Mine.om513 | exact Mine.om149 | exact Mine.om252 | fail
  revert X; k_fill; intro X
  have hroom0 : dp < recursionLimit := by omega
  k_dflt (k_extra "enter")
  k_steps
  unfold Hold
  rename Fr _ _ _ _ => F1
  with_unfolding_all refine' For_invVF F1 ?k1 ?k2 ?_
  case k1 => exact rfl
  case k2 => exact rfl
  k_steps
  unfold Hold
  rename IsRange _ _ _ _ _ _ _ _ => hR
  rename Fr _ _ _ _ => F2
  rename News _ _ _ _ => N2
  have hsm : Builtin.Range.small 0 (↑labels.length - 1) 1 = true := small_one (by omega) (by omega) (by omega) (by omega)
  have hsz : Builtin.Range.rangeSize 0 (↑labels.length - 1) 1 = ((labels.length - 1 : Nat) : Int) := by unfold Builtin.Range.rangeSize; rw [if_pos (by decide)]; split <;> omega
  refine rangeLoop (labels.length - 1) [Str.ofString "bound"] (fun i _ nx => nx = news ∧ ∀ j < i, clash below tabs labels j = false) rfl hR hsm hsz F2 N2 ?_ ?_ ?_
  · exact ⟨rfl, fun j hj => absurd hj (Nat.not_lt_zero _)⟩
  · rintro i t m₁ nx h tk own hi hI0 hoff hp1 F3 N3
    try (refine letQS ?_; intro Q2 s2)
    obtain ⟨rfl, hpre⟩ := hp1
    have ht' := List.mem_append_left own ht
    have hb' := List.mem_append_left own hb
    simp only [List.map, over, Int.zero_add] at F3
    have hbk : (labels.length - 1) < bvs.length := by omega
    have hbi : i < bvs.length := by omega
    obtain ⟨rk, vk, nk, hvk, hmk, hIk⟩ := hrow (labels.length - 1) (bvs[labels.length - 1]'hbk) (List.getElem?_eq_getElem hbk)
    obtain ⟨ri, vi, ni, hvi, hmi, hIi⟩ := hrow i (bvs[i]'hbi) (List.getElem?_eq_getElem hbi)
    have hmk' := List.mem_append_left own hmk
    have hmi' := List.mem_append_left own hmi
    have hvk' : bvs[((labels.length : Int) - 1).toNat]? = some (.ref rk) := by
      have : ((labels.length : Int) - 1).toNat = labels.length - 1 := by omega
      rw [this, ← hvk]; exact List.getElem?_eq_getElem hbk
    have hvi' : bvs[((i : Int)).toNat]? = some (.ref ri) := by
      have : ((i : Int)).toNat = i := by omega
      rw [this, ← hvi]; exact List.getElem?_eq_getElem hbi
    clear F2 N2 hR
    k_steps
    all_goals first
      | (have e : fitsF below tabs labels = false := fits_false hi (clash_yes (by first | exact .inl ⟨by assumption, rfl⟩ | exact .inr ⟨by assumption, rfl⟩) (by first | exact .inl ⟨by assumption, by assumption⟩ | exact .inr ⟨by assumption, by assumption⟩))
         rw [e] at ret
         exact ret _ _ (by k_asm) (fun p hp => (by k_asm : News h₀ L _ _) p (List.mem_append_left _ hp)))
      | (unfold Hold
         refine ⟨_, _, _, _, nx, rfl, by k_asm, by k_asm, fun p hp => List.mem_append_left _ hp, fun p hp => List.mem_append_right _ hp, hoff, ⟨rfl, ?_⟩, ?_⟩
         · have e : clash below tabs labels i = false := clash_no (by first | exact .inl ⟨by assumption, rfl⟩ | exact .inr ⟨by assumption, rfl⟩) (by first | exact .inl (by assumption) | exact .inr (by assumption)) (by first | exact .inl (by assumption) | exact .inr (by assumption))
           intro j hj
           rcases Nat.lt_or_ge j i with q | q
           · exact hpre j q
           · obtain rfl : j = i := by omega
             exact e
         · walk_at "off")
  · rintro m₁ nx h tk hp3 F3 N3
    try (refine letQS ?_; intro Q4 s4)
    obtain ⟨rfl, hpre⟩ := hp3
    simp only [List.map, over] at F3
    rw [fits_true hpre] at ret
    clear F2 N2 hR
    k_steps
    exact ret _ _ (by k_asm) (by k_asm)
end
end Mine
end
-- F03
section
theorem Mine.resetF03 : True := by (w_top off; trivial)
open PySem PySem.W PyProof.Rows
set_option Elab.async false
set_option maxRecDepth 100000
set_option maxHeartbeats 8000000
namespace Mine
theorem IntsAre.snoc {vs : List Value} {l : List Int} (h : IntsAre vs l) (x : Int) (t : Tok) : IntsAre (vs ++ [.int x t]) (l ++ [x]) := by
  induction h with
  | nil => exact .cons _ _ .nil
  | cons n t h ih => exact .cons _ _ ih
noncomputable def cutGo (g c : Int) : Nat → List Int → List Int
  | 0, l => l
  | n + 1, l => if l.sum < c then cutGo g c n (l ++ [if c - l.sum < g then c - l.sum else g]) else l
noncomputable def cutF (f g c : Int) : List Int := cutGo g c c.toNat [if c < f then c else f]
section
variable {w : World} {p : Program} {loose : List Str} {mean : ExcName → Option Value} {mg mb : Str → Option Value} {dp un : Nat} {gd : Option (List Code)} {A₀ : Around} {env : Env} {outer : List Env} {base h₀ : Heap} {L : Addr} {m : Str → Option Value} {news : List (Addr × Obj)} {s : Shared} {R : Result → Shared → Prop}
theorem cut_code {f g c : Int} {t1 t2 t3 : Tok} (B : Below A₀ base outer h₀) (F : Fr h₀ L s.heap m) (X : (hd.heap_39 w.params).In h₀) (N : News h₀ L s.heap news) (T : Top p loose mean mg mb h₀)
    (hf : env.frame = some L) (hke : env.scope.kind = .function) (hroom : dp < recursionLimit)
    (hf1 : 1 ≤ f) (hg : 1 ≤ g) (hc : 1 ≤ c) (hc9 : c < 100)
    (ret : ∀ r vs n h' tk', Fr h₀ L h' m → News h₀ L h' ((r, listOf vs.toArray n) :: news) → IntsAre vs (cutF f g c) → (∀ p ∈ news, p.1 < r) → R (.ok (.ret (.ref r))) { s with heap := h', toks := tk' }) :
    codeAny (model PySem.Challenge.rw_rs0134_01.row.prog w) (Ar dp un gd env outer) (.call (.ref 164) ⟨[.int f t1, .int g t2, .int c t3], []⟩) R s := by
  k_with_none
  k_with "execs cons" => (k_here; (fail_if_success with_reducible (rename Mine.NoLet => kL)); (with_reducible refine wpAny_execs_cons ?_); (try dsimp only); refine Mine.letQS ?_; intro _ _)
  k_with "storeName" => (k_here; (fail_if_success with_reducible (rename Mine.NoStore => kL)); k_dflt (refine' Mine.storeLet (by k_asm) (by k_asm) ?_ (by rfl) (by rfl); k_whole; intro _ _ _ _; (try k_sweep)))
  k_with "off" => (intro _; intros; repeat (first | exact rfl | (refine Eq.trans (if_neg (by first | assumption | (refine' Mine.ne_of_out (by assumption) (by repeat (first | with_reducible exact List.mem_cons_self | refine List.mem_cons_of_mem _ ?_))))) ?_)))
  k_with "enter" => (refine' code_def ?enk1 ?enk2 ?enk3 ?enk4 ?enk5 ?enkA ?enkF ?enkK ?enk6 ?enk7 ?enk8 ?enk9 ?enkB ?_ ?enc2 ?enc3 ?enc4 ?enc5; (case enkA => exact rfl); (case enkF => assumption); (case enkK => assumption); (case enk1 => k_asm); (case enk2 => k_asm); (case enk3 => k_asm); (case enk4 => k_asm); (case enk5 => k_asm); (case enk6 => k_is); (case enk7 => k_is); (case enk8 => first | assumption | (show _ < recursionLimit; dsimp only; omega) | ktr_room); (case enk9 => exact BindsTo.of_eq rfl); (case enc5 => decide); (case enkB => exact locs rfl); (case enc2 => exact rfl); (case enc3 => exact rfl); (case enc4 => exact rfl); k_whole; intro _ _ _ _ _ _ _ _ _; (try dsimp only); (try k_fold))
  k_with "InvEndN" => (refine Hold.mk ?_)
  k_with "pyIter ref" => (refine Hold.mk ?_)
  k_with "call ref" => (k_here; (with_reducible show wpAny _ _ (call (Value.ref 28) _) _ _ _); (with_reducible refine wpAny_call (strcoll_code (by k_asm) (by k_asm) (by k_asm) (by k_asm) (by k_asm) rfl rfl (by first | assumption | (dsimp only [Around.deeper]; omega)) ?_)); intro _ _ _ _ _; (try dsimp only))
  k_with "kall" => (first | exact List.forall_mem_nil _ | assumption | exact all_ne_of_lt (by assumption) | (refine' List.forall_mem_cons.mpr ⟨(by k_ne), (by k_all)⟩))
  k_with "call builtin:list.append" => (k_here; (with_reducible show wpAny _ _ (call (Value.builtin _) [Value.ref _, _]) _ _ _); k_dflt (refine' append_K (by k_asm) (by k_asm) (by k_upd) ?_ (by first | assumption | size_fits); k_whole); intro _ _ _; (try k_sweep))
  k_with "exec While Compare cons nil" => (refine Hold.mk ?_)
  k_with "call builtin:sum" => (k_here; (with_reducible show wpAny _ _ (call (Value.builtin "sum") [Value.ref _]) _ _ _); refine LSm.sum_ints (by k_asm) (by k_asm) rfl (News.isList (by k_asm) (by with_reducible k_mem)) (by assumption) ?_; intro _ _ _ _ _; (try dsimp only))
  k_with "om" => with_reducible first | exact Mine.om288 (by assumption) | exact Mine.om304 (by assumption) | exact Mine.om314 (by assumption) (by assumption) | exact Mine.om364 (by assumption) | exact Mine.om372 (by assumption) (by assumption) | exact Mine.om397 | exact Mine.om455 (by assumption) (by assumption) | exact Mine.om113 | fail
  revert X; k_fill; intro X
  k_dflt (k_extra "enter")
  k_steps
  unfold Hold
  rename Fr _ _ _ _ => F1
  rename News _ _ _ _ => N1
  rename ∀ p ∈ news, _ => hlt
  rename_i r1 _ _ _ _ _
  refine whileInv [] (fun n _ nx => ∃ l vs k, nx = (r1, listOf vs.toArray k) :: news ∧ IntsAre vs l ∧ cutGo g c n l = cutF f g c ∧ c - l.sum ≤ n ∧ l.length + n ≤ 100) (n₀ := c.toNat) F1 N1 ?_ ?_
  · exact ⟨_, [_], 0, rfl, .cons _ _ .nil, rfl, by simp; split <;> omega, by simp; omega⟩
  · rintro n m₁ news₁ h₁ tk₁ F2 N2 hp5
    try (refine letQS ?_; intro Q6 s6)
    refine exE3 hp5 ?_; intro l vs k hq2
    refine anE5 hq2 ?_; clear hq2; intro hr2 hI hcut hn hlen
    clear hp5
    subst hr2
    simp only [List.map, over] at F2
    clear F1 N1
    have hvl : vs.length = l.length := hI.length
    have hsz : vs.toArray.size ≤ sizeLine := by rw [List.size_toArray, sizeLine_eq]; omega
    k_steps
    · cases n with
      | zero => exfalso; omega
      | succ n =>
        rename l.sum < c => hlt2
        rename News _ _ _ _ => N5
        rw [List.push_toArray] at N5
        refine WhileStep.intro (n' := n) (by k_asm) N5 (Nat.lt_succ_self n) ⟨⟨l ++ [if c - l.sum < g then c - l.sum else g], vs ++ [_], k + 1, rfl, IntsAre.snoc hI _ _, ?_, ?_, ?_⟩, fun z _ => rfl⟩
        · rw [← hcut, cutGo, if_pos hlt2]
        · simp only [List.sum_append, List.sum_cons, List.sum_nil]; split <;> omega
        · simp only [List.length_append, List.length_singleton]; omega
    · rename ¬ l.sum < c => hge
      refine ret _ vs k _ _ (by k_asm) (by k_asm) ?_ hlt
      rw [← hcut]
      cases n with
      | zero => exact hI
      | succ n => rw [cutGo, if_neg hge]; exact hI
end
end Mine
end
-- F04
section
theorem Mine.resetF04 : True := by (w_top off; trivial)
open PySem PySem.W PyProof.Rows
set_option Elab.async false
set_option maxRecDepth 100000
set_option maxHeartbeats 8000000
namespace Mine
noncomputable def isBl (c : Nat) : Bool := c == 32 || c == 9
structure WsSt where
  count : List Int
  b : Int
  n : Int
  nt : Int
noncomputable def bump (count : List Int) (b : Int) : List Int :=
  let c := if b ≥ (count.length : Int) then count ++ List.replicate (b - count.length + 1).toNat 0 else count
  c.set b.toNat (c.getD b.toNat 0 + 1)
noncomputable def wsStep (σ : WsSt) (c : Nat) : WsSt := if c = 32 then ⟨σ.count, σ.b + 1, σ.n + 1, σ.nt⟩ else ⟨bump σ.count σ.b, 0, σ.n + 1, σ.nt + 1⟩
noncomputable def wsF (x : Str) : WsSt := (x.cps.toList.takeWhile isBl).foldl wsStep ⟨[], 0, 0, 0⟩
theorem one_blank {c : Nat} (h : (({ cps := #[c] } : Str) == Str.ofString " ") = true) : c = 32 := by
  have e : ({ cps := #[c] } : Str) = Str.ofString " " := by simpa using h
  have e2 : ({ cps := #[c] } : Str) = ({ cps := #[32] } : Str) := e.trans (by decide +kernel)
  simpa using e2
theorem one_tab {c : Nat} (h : (({ cps := #[c] } : Str) == Str.ofString "\t") = true) : c = 9 := by
  have e : ({ cps := #[c] } : Str) = Str.ofString "\t" := by simpa using h
  have e2 : ({ cps := #[c] } : Str) = ({ cps := #[9] } : Str) := e.trans (by decide +kernel)
  simpa using e2
theorem one_no {c : Nat} (h : (({ cps := #[c] } : Str) == Str.ofString " ") = false) (h' : (({ cps := #[c] } : Str) == Str.ofString "\t") = false) : isBl c = false := by
  unfold isBl
  by_cases h1 : c = 32
  · subst h1; exact absurd h (by decide +kernel)
  · by_cases h2 : c = 9
    · subst h2; exact absurd h' (by decide +kernel)
    · simp [h1, h2]
theorem take_snoc {α : Type} {l : List α} {i : Nat} {c : α} (h : l[i]? = some c) : l.take (i + 1) = l.take i ++ [c] := by
  rw [List.take_add_one, h]; rfl
theorem wsF_stop {x : Str} {i : Nat} {c : Nat} (hb : ∀ d ∈ x.cps.toList.take i, isBl d = true) (hc : x.cps.toList[i]? = some c) (hn : isBl c = false) : wsF x = (x.cps.toList.take i).foldl wsStep ⟨[], 0, 0, 0⟩ := by
  unfold wsF
  have key : ∀ (l : List Nat) (i : Nat), (∀ d ∈ l.take i, isBl d = true) → l[i]? = some c → l.takeWhile isBl = l.take i := by
    intro l
    induction l with
    | nil => intro i _ h; simp at h
    | cons a r ih =>
      intro i hb h
      cases i with
      | zero =>
        simp at h
        subst h
        rw [List.takeWhile_cons, hn]; rfl
      | succ i =>
        rw [List.take_succ_cons] at hb ⊢
        rw [List.takeWhile_cons, hb a (.head _), if_pos rfl, ih i (fun d hd => hb d (.tail _ hd)) (by simpa using h)]
  rw [key _ i hb hc]
theorem wsF_end {x : Str} (hb : ∀ d ∈ x.cps.toList.take x.cps.size, isBl d = true) : wsF x = (x.cps.toList.take x.cps.size).foldl wsStep ⟨[], 0, 0, 0⟩ := by
  have e : x.cps.toList.take x.cps.size = x.cps.toList := by
    apply List.take_of_length_le; simp
  rw [e] at hb ⊢
  unfold wsF
  congr 1
  have key : ∀ l : List Nat, (∀ d ∈ l, isBl d = true) → l.takeWhile isBl = l := by
    intro l
    induction l with
    | nil => intro _; rfl
    | cons a r ih => intro h; rw [List.takeWhile_cons, h a (.head _), if_pos rfl, ih fun d hd => h d (.tail _ hd)]
  exact key _ hb
structure WsSt.Ok (σ : WsSt) (i : Nat) : Prop where
  b0 : 0 ≤ σ.b
  b9 : σ.b ≤ i
  len : σ.count.length ≤ i
theorem bump_length (c : List Int) (b : Int) (h : 0 ≤ b) : ((bump c b).length : Int) = if b ≥ (c.length : Int) then b + 1 else c.length := by
  k_with_none
  k_with "om" => with_reducible first | exact Mine.om277 (by assumption) | fail
  unfold bump
  simp only [List.length_set]
  split
  · simp only [List.length_append, List.length_replicate]; omega
  · rfl
theorem WsSt.Ok.step {σ : WsSt} {i : Nat} (h : σ.Ok i) (c : Nat) : (wsStep σ c).Ok (i + 1) := by
  obtain ⟨h1, h2, h3⟩ := h
  unfold wsStep
  split
  · exact ⟨by dsimp only; omega, by dsimp only; omega, by dsimp only; omega⟩
  · refine ⟨by dsimp only; omega, by dsimp only; omega, ?_⟩
    have := bump_length σ.count σ.b h1
    dsimp only
    split at this <;> omega
theorem WsSt.Ok.all {x : List Nat} : ∀ i, ((x.take i).foldl wsStep ⟨[], 0, 0, 0⟩).Ok i
  | 0 => ⟨Int.le_refl 0, Int.le_refl 0, Nat.le_refl 0⟩
  | i + 1 => by
    cases h : x[i]? with
    | none =>
      have e : x.take (i + 1) = x.take i := by rw [List.take_add_one, h]; simp
      rw [e]
      obtain ⟨h1, h2, h3⟩ := WsSt.Ok.all (x := x) i
      exact ⟨h1, by omega, by omega⟩
    | some c =>
      rw [take_snoc h, List.foldl_append]
      exact (WsSt.Ok.all (x := x) i).step c
theorem rep_flat (k : Nat) : (List.replicate k [(0 : Int)]).flatten = List.replicate k 0 := by
  induction k with
  | zero => rfl
  | succ k ih => rw [List.replicate_succ, List.flatten_cons, ih]; rfl
section
variable {w : World} {p : Program} {loose : List Str} {mean : ExcName → Option Value} {mg mb : Str → Option Value} {dp un : Nat} {gd : Option (List Code)} {A₀ : Around} {env : Env} {outer : List Env} {base h₀ : Heap} {L : Addr} {m : Str → Option Value} {news : List (Addr × Obj)} {s : Shared} {R : Result → Shared → Prop}
/-- what Whitespace(ws) leaves: the object, its dict, its pair, its counts -/
inductive WsIn (w : World) (news : List (Addr × Obj)) (x : Addr) (ws : Str) : Prop
  | mk : ∀ (dx : Addr) (k : Nat) (T C : Addr) (kT kC : Nat) (cvs : List Value) (tr t1 tn1 tn2 tt1 tt2 tm ts tb : Tok), (x, instObj 139 dx) ∈ news →
    (dx, dictOf [⟨PyData.keyHash w.params (Str.ofString "raw"), .str (Str.ofString "raw") tr, .str ws t1⟩, ⟨PyData.keyHash w.params (Str.ofString "n"), .str (Str.ofString "n") tn1, .int (wsF ws).n tn2⟩,
      ⟨PyData.keyHash w.params (Str.ofString "nt"), .str (Str.ofString "nt") tt1, .int (wsF ws).nt tt2⟩, ⟨PyData.keyHash w.params (Str.ofString "norm"), .str (Str.ofString "norm") tm, .ref T⟩,
      ⟨PyData.keyHash w.params (Str.ofString "is_simple"), .str (Str.ofString "is_simple") ts, .bool (decide (((wsF ws).count.length : Int) ≤ 1))⟩] k) ∈ news →
    (T, { cls := .type "tuple", data := .seq #[.ref C, .int (wsF ws).b tb] kT }) ∈ news → (C, { cls := .type "tuple", data := .seq cvs.toArray kC }) ∈ news → IntsAre cvs (wsF ws).count → WsIn w news x ws
theorem WsIn.mono {w : World} {T T' : List (Addr × Obj)} {a : Addr} {x : Str} (h : WsIn w T a x) (hs : ∀ p ∈ T, p ∈ T') : WsIn w T' a x := by
  obtain ⟨dx, k, T, C, kT, kC, cvs, tr, t1, tn1, tn2, tt1, tt2, tm, ts, tb, h1, h2, h3, h4, h5⟩ := h
  exact ⟨dx, k, T, C, kT, kC, cvs, tr, t1, tn1, tn2, tt1, tt2, tm, ts, tb, hs _ h1, hs _ h2, hs _ h3, hs _ h4, h5⟩
/-- between the signs -/
inductive WsJ (w : World) (x dx : Addr) (ws : Str) (t1 : Tok) (news : List (Addr × Obj)) (P : WsSt → Prop) (m₁ : Str → Option Value) (nx : List (Addr × Obj)) : Prop
  | mk : ∀ (lc : Addr) (vs : List Value) (k : Nat) (tb tn tt tr : Tok) (σ : WsSt), nx = (lc, listOf vs.toArray k) :: (x, instObj 139 dx) :: (dx, dictOf [⟨PyData.keyHash w.params (Str.ofString "raw"), .str (Str.ofString "raw") tr, .str ws t1⟩] 1) :: news → IntsAre vs σ.count →
      m₁ (Str.ofString "count") = some (.ref lc) → m₁ (Str.ofString "b") = some (.int σ.b tb) → m₁ (Str.ofString "n") = some (.int σ.n tn) → m₁ (Str.ofString "nt") = some (.int σ.nt tt) →
      @LT.lt Nat _ x lc → @LT.lt Nat _ dx lc → (∀ p ∈ news, p.1 < lc) → P σ → WsJ w x dx ws t1 news P m₁ nx
theorem wsinit_code {x dx : Addr} {ws : Str} {t1 : Tok} (B : Below A₀ base outer h₀) (F : Fr h₀ L s.heap m) (X : (hd.heap_39 w.params).In h₀) (N : News h₀ L s.heap ((x, instObj 139 dx) :: (dx, dictOf [] 0) :: news)) (T : Top p loose mean mg mb h₀)
    (hf : env.frame = some L) (hke : env.scope.kind = .function) (hroom : dp < recursionLimit) (l1 : ∀ p ∈ news, p.1 < dx) (l2 : @LT.lt Nat _ dx x) (hws : ws.length < 100)
    (ret : ∀ h' tk' tl, Fr h₀ L h' m → News h₀ L h' (tl ++ news) → WsIn w tl x ws → (∀ q ∈ tl, ∀ p ∈ news, p.1 < q.1) → R (.ok (.ret .none)) { s with heap := h', toks := tk' }) :
    codeAny (model PySem.Challenge.rw_rs0134_01.row.prog w) (Ar dp un gd env outer) (.call (.ref 94) ⟨[.ref x, .str ws t1], []⟩) R s := by
  k_with "execs cons" => (k_here; (fail_if_success with_reducible (rename Mine.NoLet => kL)); (with_reducible refine wpAny_execs_cons ?_); (try dsimp only); refine Mine.letQS ?_; intro _ _)
  k_with "storeName" => (k_here; (fail_if_success with_reducible (rename Mine.NoStore => kL)); k_dflt (refine' Mine.storeLet (by k_asm) (by k_asm) ?_ (by rfl) (by rfl); k_whole; intro _ _ _ _; (try k_sweep)))
  k_with "off" => (intro _; intros; repeat (first | exact rfl | (refine Eq.trans (if_neg (by first | assumption | (refine' Mine.ne_of_out (by assumption) (by repeat (first | with_reducible exact List.mem_cons_self | refine List.mem_cons_of_mem _ ?_))))) ?_)))
  k_with "enter" => (refine' code_def ?enk1 ?enk2 ?enk3 ?enk4 ?enk5 ?enkA ?enkF ?enkK ?enk6 ?enk7 ?enk8 ?enk9 ?enkB ?_ ?enc2 ?enc3 ?enc4 ?enc5; (case enkA => exact rfl); (case enkF => assumption); (case enkK => assumption); (case enk1 => k_asm); (case enk2 => k_asm); (case enk3 => k_asm); (case enk4 => k_asm); (case enk5 => k_asm); (case enk6 => k_is); (case enk7 => k_is); (case enk8 => first | assumption | (show _ < recursionLimit; dsimp only; omega) | ktr_room); (case enk9 => exact BindsTo.of_eq rfl); (case enc5 => decide); (case enkB => exact locs rfl); (case enc2 => exact rfl); (case enc3 => exact rfl); (case enc4 => exact rfl); k_whole; intro _ _ _ _ _ _ _ _ _; (try dsimp only); (try k_fold))
  k_with "InvEndG" => (refine Hold.mk ?_)
  k_with "pyIter ref" => (refine Hold.mk ?_)
  k_with "call ref" => (k_here; (with_reducible show wpAny _ _ (call (Value.ref 28) _) _ _ _); (with_reducible refine wpAny_call (strcoll_code (by k_asm) (by k_asm) (by k_asm) (by k_asm) (by k_asm) rfl rfl (by first | assumption | (dsimp only [Around.deeper]; omega)) ?_)); intro _ _ _ _ _; (try dsimp only))
  k_with "kall" => (first | exact List.forall_mem_nil _ | assumption | exact all_ne_of_lt (by assumption) | (refine' List.forall_mem_cons.mpr ⟨(by k_ne), (by k_all)⟩))
  k_with "call builtin:list.append" => (k_here; (with_reducible show wpAny _ _ (call (Value.builtin _) [Value.ref _, _]) _ _ _); k_dflt (refine' append_K (by k_asm) (by k_asm) (by k_upd) ?_ (by first | assumption | size_fits); k_whole); intro _ _ _; (try k_sweep))
  k_with "brkQ" => (dsimp only [brkQ])
  k_with "BrkEnd" => (refine Hold.mk ?_)
  k_with "call builtin:len" => (k_here; (with_reducible show wpAny _ _ (call (Value.builtin "len") [Value.str _ _]) _ _ _); refine len_str (by omega) ?_)
  k_with "call builtin:len" => (k_here; (with_reducible show wpAny _ _ (call (Value.builtin "len") [Value.ref _]) _ _ _); refine PyProof.Rows.len_list (News.isList (by k_asm) (by with_reducible k_mem)) (by rw [List.size_toArray]; omega) ?_; rw [List.size_toArray])
  k_with "call type:tuple" => (k_here; (with_reducible show wpAny _ _ (call (Value.type _) [Value.ref _]) _ _ _); k_dflt (refine' kde_tupleOf (by k_asm) (by k_asm) (by exact News.isList (by k_asm) (by k_mem)) (by rw [List.size_toArray]; omega) (by exact List.toList_toArray) ?_; k_whole); intro _ _ _ _ zl9; (try k_lt zl9))
  k_with "exec For Name Attribute cons nil" => (refine Hold.mk ?_)
  k_with "pyIter str" => (refine Hold.mk ?_)
  k_with "om" => with_reducible first | exact Mine.om2 (by assumption) | exact Mine.om140 (by assumption) (by assumption) | exact Mine.om152 (by assumption) | exact Mine.om178 (by assumption) | exact Mine.om220 (by assumption) | exact Mine.om221 (by assumption) | exact Mine.om4 (by assumption) | exact Mine.om261 (by assumption) (by assumption) (by assumption) (by assumption) | exact Mine.om262 (by assumption) (by assumption) (by assumption) (by assumption) | exact Mine.om297 (by assumption) | exact Mine.om303 (by assumption) | exact Mine.om333 (by assumption) (by assumption) (by assumption) | exact Mine.om338 (by assumption) (by assumption) (by assumption) | exact Mine.om393 (by assumption) | exact Mine.om416 (by assumption) (by assumption) | exact Mine.om425 (by assumption) | exact Mine.om430 (by assumption) | exact Mine.om443 (by assumption) | exact Mine.om113 | exact Mine.om36 | fail
  revert X; k_fill; intro X
  k_dflt (k_extra "enter")
  k_steps
  unfold Hold
  rename Fr _ _ _ _ => F1
  with_unfolding_all refine' For_invVF F1 ?k1 ?k2 ?_
  case k1 => exact rfl
  case k2 => exact rfl
  k_steps
  unfold Hold
  rename Fr _ _ _ _ => F2
  rename News _ _ _ _ => N2
  rename _ ∧ _ ∧ _ ∧ AllLt _ _ => hlt
  have hcs : ws.cps.size = ws.length := rfl
  have N3 := cb_drop N2 (fun p hp => (List.mem_cons.mp hp).elim (fun e => List.mem_cons.mpr (.inl e)) fun h => .tail _ (.tail _ h))
  refine strLoopB [Str.ofString "count", Str.ofString "b", Str.ofString "n", Str.ofString "nt"]
    (fun i => WsJ w x dx ws t1 news fun σ => (∀ c ∈ ws.cps.toList.take i, isBl c = true) ∧ σ = (ws.cps.toList.take i).foldl wsStep ⟨[], 0, 0, 0⟩) (WsJ w x dx ws t1 news fun σ => σ = wsF ws ∧ σ.Ok 100) rfl F2 N3 ?_ ?_ ?_
  · refine anE4 hlt ?_; intro q1 q2 q3 q4
    clear hlt
    exact ⟨_, [], 0, _, _, _, _, ⟨[], 0, 0, 0⟩, rfl, .nil, rfl, rfl, rfl, rfl, q2, q3, ktn_ltOf q4, fun c hc => (nomatch hc), rfl⟩
  · rintro i c u m₁ nx h tk own hi hc hI0 hoff hp7 F3 N4
    try (refine letQS ?_; intro Q8 s8)
    obtain ⟨lc, vs, k, tb, tn, tt, tr, σ, rfl, hIn, hm1, hm2, hm3, hm4, hl1, hl2, hl3, hbl, hσ⟩ := hp7
    simp only [List.map, over, hm1, hm2, hm3, hm4] at F3
    clear F2 N2 N3
    have hc' : ws.cps.toList[i]? = some c := by simpa using hc
    have hok : σ.Ok i := hσ ▸ WsSt.Ok.all i
    have hvl : vs.length = σ.count.length := hIn.length
    have hvl9 : σ.count.length ≤ 100 := by have := hok.len; omega
    have hb0 : 0 ≤ σ.b := hok.b0
    have hb9 : σ.b ≤ 100 := by have := hok.b9; omega
    have hne := all_ne_app hl3 (ownOff_head hoff)
    have hnext : ∀ d, isBl d = true → c = d → (∀ c ∈ ws.cps.toList.take (i + 1), isBl c = true) ∧ wsStep σ d = (ws.cps.toList.take (i + 1)).foldl wsStep ⟨[], 0, 0, 0⟩ := by
      rintro d hd rfl
      rw [take_snoc hc', List.foldl_append, ← hσ]
      exact ⟨fun e he => (List.mem_append.mp he).elim (hbl e) fun q => (List.mem_singleton.mp q) ▸ hd, rfl⟩
    k_steps
    all_goals unfold Hold
    · rename (_ == Str.ofString " ") = true => hb1
      obtain ⟨q1, q2⟩ := hnext 32 rfl (one_blank hb1)
      refine InvEndG.intro (nx := (lc, listOf vs.toArray k) :: (x, instObj 139 dx) :: (dx, _) :: news) (by k_asm) (by k_asm) ⟨⟨lc, vs, k, _, _, _, tr, wsStep σ 32, rfl, hIn, rfl, rfl, rfl, rfl, hl1, hl2, hl3, q1, q2⟩, ?_⟩ hoff (fun p hp => List.mem_append_left _ hp) fun p hp => List.mem_append_right _ hp
      walk_at "off"
    · rename (_ == Str.ofString "\t") = true => hb1
      rename (σ.count.length : Int) ≤ σ.b => hge
      obtain ⟨q1, q2⟩ := hnext 9 rfl (one_tab hb1)
      rename IntsAre (List.set _ _ _) _ => hi2
      rename News _ _ _ _ => N5
      rename _ ∧ _ ∧ AllLt _ _ => hd5
      have hd6 := ktn_ltOf hd5.2.2
      have e : bump σ.count σ.b = (σ.count ++ (List.replicate (σ.b - (σ.count.length : Int) + 1).toNat [0]).flatten).set σ.b.toNat ((σ.count ++ (List.replicate (σ.b - (σ.count.length : Int) + 1).toNat [0]).flatten).getD σ.b.toNat 0 + 1) := by
        unfold bump
        rw [if_pos hge, rep_flat]
      rw [← e] at hi2
      rename Fr _ _ _ _ => F5
      refine InvEndG.intro (nx := (_, listOf _ _) :: (x, instObj 139 dx) :: (dx, _) :: news) F5 N5 ⟨⟨_, _, _, _, _, _, tr, wsStep σ 9, rfl, hi2, rfl, rfl, rfl, rfl, ?_, ?_, ?_, q1, q2⟩, ?_⟩ ?_ (fun p hp => (List.mem_cons.mp hp).elim (fun e => List.mem_cons.mpr (.inl e)) fun h => .tail _ (.tail _ (.tail _ (.tail _ (List.mem_append_left _ h))))) fun p hp => .tail _ (.tail _ (.tail _ (.tail _ (List.mem_append_right _ hp))))
      rotate_right
      · exact ownOff_cons (fun p hp => Nat.ne_of_lt (hd6 p (.tail _ (.tail _ (.tail _ (List.mem_append_right _ hp)))))) (ownOff_tail hoff)
      · exact hd6 (x, _) (.tail _ (.head _))
      · exact hd6 (dx, _) (.tail _ (.tail _ (.head _)))
      · exact fun p hp => hd6 p (.tail _ (.tail _ (.tail _ (List.mem_append_left _ hp))))
      · walk_at "off"
    · rename (_ == Str.ofString "\t") = true => hb1
      rename ¬ (σ.count.length : Int) ≤ σ.b => hge
      obtain ⟨q1, q2⟩ := hnext 9 rfl (one_tab hb1)
      rename IntsAre (List.set _ _ _) _ => hi2
      rename News _ _ _ _ => N5
      have e : bump σ.count σ.b = σ.count.set σ.b.toNat (σ.count.getD σ.b.toNat 0 + 1) := by
        unfold bump
        rw [if_neg hge]
      rw [← e] at hi2
      refine InvEndG.intro (nx := (lc, listOf _ _) :: (x, instObj 139 dx) :: (dx, _) :: news) (by k_asm) N5 ⟨⟨_, _, _, _, _, _, tr, wsStep σ 9, rfl, hi2, rfl, rfl, rfl, rfl, hl1, hl2, hl3, q1, q2⟩, ?_⟩ hoff (fun p hp => (List.mem_cons.mp hp).elim (fun e => List.mem_cons.mpr (.inl e)) fun h => List.mem_cons.mpr (.inr (List.mem_append_left _ h))) fun p hp => List.mem_cons.mpr (.inr (List.mem_append_right _ hp))
      walk_at "off"
    · rename (_ == Str.ofString " ") = false => hb1
      rename (_ == Str.ofString "\t") = false => hb2
      refine ⟨_, _, _, (lc, listOf vs.toArray k) :: (x, instObj 139 dx) :: (dx, _) :: news, rfl, by k_asm, cb_drop (by k_asm) (fun p hp => List.mem_append_left _ hp), ⟨lc, vs, k, _, _, _, tr, σ, rfl, hIn, rfl, rfl, rfl, rfl, hl1, hl2, hl3, ?_, ?_⟩, ?_⟩
      · rw [hσ, wsF_stop hbl hc' (one_no hb1 hb2)]
      · exact ⟨hok.b0, by have := hok.b9; omega, by omega⟩
      · walk_at "off"
  · rintro m₁ nx h tk hJ F3 N4
    have key : WsJ w x dx ws t1 news (fun σ => σ = wsF ws ∧ σ.Ok 100) m₁ nx := by
      rcases hJ with ⟨lc, vs, k, tb, tn, tt, tr, σ, e, hIn, hm1, hm2, hm3, hm4, hl1, hl2, hl3, hbl, hσ⟩ | h
      · refine ⟨lc, vs, k, tb, tn, tt, tr, σ, e, hIn, hm1, hm2, hm3, hm4, hl1, hl2, hl3, hσ.trans (wsF_end hbl).symm, ?_⟩
        have hok : σ.Ok _ := hσ ▸ WsSt.Ok.all _
        exact ⟨hok.b0, by have := hok.b9; omega, by have := hok.len; omega⟩
      · exact h
    clear hJ
    try (refine letQS ?_; intro Q9 s9)
    obtain ⟨lc, vs, k, tb, tn, tt, tr, σ, rfl, hIn, hm1, hm2, hm3, hm4, hl1, hl2, hl3, hσ, hok⟩ := key
    simp only [List.map, over, hm1, hm2, hm3, hm4] at F3
    clear F2 N2 N3
    have hvl : vs.length = σ.count.length := hIn.length
    have hvl9 : σ.count.length ≤ 100 := hok.len
    k_steps
    subst hσ
    rename News h₀ L _ _ => N9
    rename Fr h₀ L _ _ => F9
    refine ret _ _ [_, _, _, _, _] F9 N9 ⟨dx, _, _, _, _, _, vs, tr, t1, _, _, _, _, _, _, _, .tail _ (.tail _ (.tail _ (.head _))), .tail _ (.tail _ (.tail _ (.tail _ (.head _)))), .head _, .tail _ (.head _), hIn⟩ ?_
    rename _ ∧ _ ∧ _ ∧ _ ∧ AllLt _ _ => hT9
    rename _ ∧ _ ∧ _ ∧ AllLt _ _ => hC9
    exact List.forall_mem_cons.mpr ⟨ktn_ltOf hT9.2.2.2.2, List.forall_mem_cons.mpr ⟨ktn_ltOf hC9.2.2.2, List.forall_mem_cons.mpr ⟨hl3, List.forall_mem_cons.mpr ⟨fun p hp => Nat.lt_trans (l1 p hp) l2, List.forall_mem_cons.mpr ⟨l1, List.forall_mem_nil _⟩⟩⟩⟩⟩
end
end Mine
end
-- F05
section
theorem Mine.resetF05 : True := by (w_top off; trivial)
open PySem PySem.W PyProof.Rows
set_option Elab.async false
set_option maxRecDepth 100000
set_option maxHeartbeats 8000000
namespace Mine
noncomputable def lrsF (ws : Str) : Int := if ((wsF ws).count.length : Int) - 1 < (wsF ws).b then (wsF ws).b else ((wsF ws).count.length : Int) - 1
/-- the sum of the runs' shares from the tab size on -/
noncomputable def ilF (count : List Int) (ts : Int) : Nat → Int
  | 0 => 0
  | n + 1 => ilF count ts n + Int.fdiv (ts + n) ts * count.getD (ts + n).toNat 0
noncomputable def indF (ws : Str) (ts : Int) : Int := (wsF ws).b + ts * (ilF (wsF ws).count ts (((wsF ws).count.length : Int) - ts).toNat + (wsF ws).nt)
noncomputable def mxF (ws ws' : Str) : Int := if lrsF ws' > lrsF ws then lrsF ws' else lrsF ws
noncomputable def lessF (ws ws' : Str) : Bool :=
  if (wsF ws').n ≤ (wsF ws).n then false
  else if ((wsF ws).count.length : Int) ≤ 1 ∧ ((wsF ws').count.length : Int) ≤ 1 then decide ((wsF ws).nt ≤ (wsF ws').nt)
  else (List.range (mxF ws ws').toNat).all fun i => !decide (indF ws' (2 + i) ≤ indF ws (2 + i))
theorem less_no {ws ws' : Str} {i : Nat} (h1 : ¬ (wsF ws').n ≤ (wsF ws).n) (h2 : ¬ (((wsF ws).count.length : Int) ≤ 1 ∧ ((wsF ws').count.length : Int) ≤ 1)) (hi : i < (mxF ws ws').toNat) (h : indF ws' (2 + i) ≤ indF ws (2 + i)) : lessF ws ws' = false := by
  unfold lessF
  rw [if_neg h1, if_neg h2, List.all_eq_false]
  exact ⟨i, List.mem_range.mpr hi, by simp [h]⟩
theorem less_yes {ws ws' : Str} (h1 : ¬ (wsF ws').n ≤ (wsF ws).n) (h2 : ¬ (((wsF ws).count.length : Int) ≤ 1 ∧ ((wsF ws').count.length : Int) ≤ 1)) (h : ∀ i < (mxF ws ws').toNat, ¬ indF ws' (2 + i) ≤ indF ws (2 + i)) : lessF ws ws' = true := by
  unfold lessF
  rw [if_neg h1, if_neg h2, List.all_eq_true]
  intro i hi
  simp [h i (List.mem_range.mp hi)]
theorem lrs_bound {ws : Str} (h : (wsF ws).Ok 100) : -1 ≤ lrsF ws ∧ lrsF ws ≤ 100 := by
  k_with_none
  k_with "om" => with_reducible first | exact Mine.om409 (by assumption) | exact Mine.om426 (by assumption) (by assumption) | fail
  obtain ⟨h1, h2, h3⟩ := h
  unfold lrsF
  split <;> omega
section
variable {w : World} {p : Program} {loose : List Str} {mean : ExcName → Option Value} {mg mb : Str → Option Value} {dp un : Nat} {gd : Option (List Code)} {A₀ : Around} {env : Env} {outer : List Env} {base h₀ : Heap} {L : Addr} {m : Str → Option Value} {news : List (Addr × Obj)} {s : Shared} {R : Result → Shared → Prop}
theorem lrs_code {x : Addr} {ws : Str} (B : Below A₀ base outer h₀) (F : Fr h₀ L s.heap m) (X : (hd.heap_39 w.params).In h₀) (N : News h₀ L s.heap news) (T : Top p loose mean mg mb h₀)
    (hf : env.frame = some L) (hke : env.scope.kind = .function) (hroom : dp < recursionLimit) (hx : WsIn w news x ws) (hl : (wsF ws).count.length ≤ 1000)
    (ret : ∀ t h' tk', Fr h₀ L h' m → News h₀ L h' news → R (.ok (.ret (.int (lrsF ws) t))) { s with heap := h', toks := tk' }) :
    codeAny (model PySem.Challenge.rw_rs0134_01.row.prog w) (Ar dp un gd env outer) (.call (.ref 101) ⟨[.ref x], []⟩) R s := by
  k_with "execs cons" => (k_here; (fail_if_success with_reducible (rename Mine.NoLet => kL)); (with_reducible refine wpAny_execs_cons ?_); (try dsimp only); refine Mine.letQS ?_; intro _ _)
  k_with "storeName" => (k_here; (fail_if_success with_reducible (rename Mine.NoStore => kL)); k_dflt (refine' Mine.storeLet (by k_asm) (by k_asm) ?_ (by rfl) (by rfl); k_whole; intro _ _ _ _; (try k_sweep)))
  k_with "off" => (intro _; intros; repeat (first | exact rfl | (refine Eq.trans (if_neg (by first | assumption | (refine' Mine.ne_of_out (by assumption) (by repeat (first | with_reducible exact List.mem_cons_self | refine List.mem_cons_of_mem _ ?_))))) ?_)))
  k_with "enter" => (refine' code_def ?enk1 ?enk2 ?enk3 ?enk4 ?enk5 ?enkA ?enkF ?enkK ?enk6 ?enk7 ?enk8 ?enk9 ?enkB ?_ ?enc2 ?enc3 ?enc4 ?enc5; (case enkA => exact rfl); (case enkF => assumption); (case enkK => assumption); (case enk1 => k_asm); (case enk2 => k_asm); (case enk3 => k_asm); (case enk4 => k_asm); (case enk5 => k_asm); (case enk6 => k_is); (case enk7 => k_is); (case enk8 => first | assumption | (show _ < recursionLimit; dsimp only; omega) | ktr_room); (case enk9 => exact BindsTo.of_eq rfl); (case enc5 => decide); (case enkB => exact locs rfl); (case enc2 => exact rfl); (case enc3 => exact rfl); (case enc4 => exact rfl); k_whole; intro _ _ _ _ _ _ _ _ _; (try dsimp only); (try k_fold))
  k_with "InvEndG" => (refine Hold.mk ?_)
  k_with "pyIter ref" => (refine Hold.mk ?_)
  k_with "call ref" => (k_here; (with_reducible show wpAny _ _ (call (Value.ref 28) _) _ _ _); (with_reducible refine wpAny_call (strcoll_code (by k_asm) (by k_asm) (by k_asm) (by k_asm) (by k_asm) rfl rfl (by first | assumption | (dsimp only [Around.deeper]; omega)) ?_)); intro _ _ _ _ _; (try dsimp only))
  k_with "kall" => (first | exact List.forall_mem_nil _ | assumption | exact all_ne_of_lt (by assumption) | (refine' List.forall_mem_cons.mpr ⟨(by k_ne), (by k_all)⟩))
  k_with "call builtin:list.append" => (k_here; (with_reducible show wpAny _ _ (call (Value.builtin _) [Value.ref _, _]) _ _ _); k_dflt (refine' append_K (by k_asm) (by k_asm) (by k_upd) ?_ (by first | assumption | size_fits); k_whole); intro _ _ _; (try k_sweep))
  k_with "brkQ" => (dsimp only [brkQ])
  k_with "BrkEnd" => (refine Hold.mk ?_)
  k_with "call builtin:len" => (k_here; (with_reducible show wpAny _ _ (call (Value.builtin "len") [Value.str _ _]) _ _ _); refine len_str (by omega) ?_)
  k_with "call builtin:len" => (k_here; (with_reducible show wpAny _ _ (call (Value.builtin "len") [Value.ref _]) _ _ _); refine PyProof.Rows.len_list (News.isList (by k_asm) (by with_reducible k_mem)) (by rw [List.size_toArray]; omega) ?_; rw [List.size_toArray])
  k_with "call builtin:len" => (k_here; (with_reducible show wpAny _ _ (call (Value.builtin "len") [Value.ref _]) _ _ _); refine PyProof.Rows.len_tuple (News.isTup (by k_asm) (by with_reducible k_mem)) (by rw [List.size_toArray]; omega) ?_; rw [List.size_toArray])
  k_with "exec For Name Call cons nil" => (refine Hold.mk ?_)
  k_with "om" => with_reducible first | exact Mine.om236 (by assumption) (by assumption) | fail
  revert X; k_fill; intro X
  obtain ⟨dx, k, T1, C1, kT, kC, cvs, tr, t1, tn1, tn2, tt1, tt2, tm, ts, tb, hx1, hx2, hx3, hx4, hx5⟩ := hx
  have hcl := hx5.length
  k_dflt (k_extra "enter")
  k_steps
  have e : lrsF ws = if (wsF ws).b > (cvs.length : Int) - 1 then (wsF ws).b else (cvs.length : Int) - 1 := by unfold lrsF; rw [hcl]
  rw [e] at ret
  exact ret _ _ _ (by k_asm) (by k_asm)
theorem indent_code {x : Addr} {ws : Str} {ts : Int} {tk1 : Tok} (B : Below A₀ base outer h₀) (F : Fr h₀ L s.heap m) (X : (hd.heap_39 w.params).In h₀) (N : News h₀ L s.heap news) (T : Top p loose mean mg mb h₀)
    (hf : env.frame = some L) (hke : env.scope.kind = .function) (hroom : dp < recursionLimit) (hx : WsIn w news x ws) (hl : (wsF ws).count.length ≤ 1000) (ht : 1 ≤ ts) (ht9 : ts ≤ 1000)
    (ret : ∀ t h' tk', Fr h₀ L h' m → News h₀ L h' news → R (.ok (.ret (.int (indF ws ts) t))) { s with heap := h', toks := tk' }) :
    codeAny (model PySem.Challenge.rw_rs0134_01.row.prog w) (Ar dp un gd env outer) (.call (.ref 108) ⟨[.ref x, .int ts tk1], []⟩) R s := by
  k_with "om" => with_reducible first | exact Mine.om201 (by assumption) (by assumption) | exact Mine.om204 (by assumption) (by assumption) | exact Mine.om244 (by assumption) | exact Mine.om269 (by assumption) | exact Mine.om282 (by assumption) | exact Mine.om380 (by assumption) | exact Mine.om80 | exact Mine.om433 (by assumption) | exact Mine.om436 (by assumption) | exact Mine.om440 (by assumption) | exact Mine.om236 (by assumption) (by assumption) | exact Mine.om451 (by assumption) | exact Mine.om457 (by assumption) | exact Mine.om459 (by assumption) | exact Mine.om469 (by assumption) | exact Mine.om478 (by assumption) | exact Mine.om488 (by assumption) | fail
  revert X; k_fill; intro X
  obtain ⟨dx, k, T1, C1, kT, kC, cvs, tr, t1, tn1, tn2, tt1, tt2, tm, ts1, tb, hx1, hx2, hx3, hx4, hx5⟩ := hx
  have hcl := hx5.length
  k_dflt (k_extra "enter")
  k_steps
  unfold Hold
  rename Fr _ _ _ _ => F1
  with_unfolding_all refine' For_invVF F1 ?k1 ?k2 ?_
  case k1 => exact rfl
  case k2 => exact rfl
  k_steps
  unfold Hold
  rename IsRange _ _ _ _ _ _ _ _ => hR
  rename Fr _ _ _ _ => F2
  rename News _ _ _ _ => N2
  have hsm : Builtin.Range.small ts ((wsF ws).count.length : Int) 1 = true := small_one (by omega) (by omega) (by omega) (by omega)
  have hsz : Builtin.Range.rangeSize ts ((wsF ws).count.length : Int) 1 = ((((wsF ws).count.length : Int) - ts).toNat : Int) := by rw [rangeSize_one]; split <;> omega
  have N3 : News _ _ _ news := cb_drop N2 (fun p hp => by first | exact hp | exact .tail _ hp | exact .tail _ (.tail _ hp))
  refine rangeLoop (((wsF ws).count.length : Int) - ts).toNat [Str.ofString "il"] (fun i m₁ nx => nx = news ∧ ∃ t, m₁ (Str.ofString "il") = some (.int (ilF (wsF ws).count ts i) t)) rfl hR hsm hsz F2 N3 ?_ ?_ ?_
  · exact ⟨rfl, _, rfl⟩
  · rintro i t m₁ nx h tk own hi hI0 hoff hp9 F3 N4
    try (refine letQS ?_; intro Q10 s10)
    obtain ⟨rfl, t5, hm1⟩ := hp9
    simp only [List.map, over, hm1] at F3
    clear F2 N2 N3 hR
    have hy1 := List.mem_append_left own hx1
    have hy2 := List.mem_append_left own hx2
    have hy3 := List.mem_append_left own hx3
    have hy4 := List.mem_append_left own hx4
    have hq : Int.fdiv (ts + (i : Int)) ts = (ts + i) / ts := Int.fdiv_eq_ediv_of_nonneg _ (by omega)
    have hq0 : 0 ≤ Int.fdiv (ts + (i : Int)) ts := by rw [hq]; exact Int.ediv_nonneg (by omega) (by omega)
    have hq1 : Int.fdiv (ts + (i : Int)) ts ≤ 1000 := by rw [hq]; exact Int.le_trans (Int.ediv_le_self _ (by omega)) (by omega)
    clear hq
    k_steps
    unfold Hold
    rename Fr _ _ _ _ => F5
    refine ⟨_, _, _, _, nx, rfl, F5, by k_asm, fun p hp => List.mem_append_left _ hp, fun p hp => List.mem_append_right _ hp, hoff, ⟨rfl, _, rfl⟩, ?_⟩
    walk_at "off"
  · rintro m₁ nx h tk hp11 F3 N4
    try (refine letQS ?_; intro Q12 s12)
    obtain ⟨rfl, t5, hm1⟩ := hp11
    simp only [List.map, over, hm1] at F3
    clear F2 N2 N3 hR
    k_steps
    exact ret _ _ _ (by k_asm) (by k_asm)
theorem less_code {x y : Addr} {ws ws' : Str} (B : Below A₀ base outer h₀) (F : Fr h₀ L s.heap m) (X : (hd.heap_39 w.params).In h₀) (N : News h₀ L s.heap news) (T : Top p loose mean mg mb h₀)
    (hf : env.frame = some L) (hke : env.scope.kind = .function) (hroom : dp + 1 < recursionLimit) (hx : WsIn w news x ws) (hok : (wsF ws).Ok 100) (hy : WsIn w news y ws') (hok' : (wsF ws').Ok 100)
    (ret : ∀ h' tk', Fr h₀ L h' m → News h₀ L h' news → R (.ok (.ret (.bool (lessF ws ws')))) { s with heap := h', toks := tk' }) :
    codeAny (model PySem.Challenge.rw_rs0134_01.row.prog w) (Ar dp un gd env outer) (.call (.ref 129) ⟨[.ref x, .ref y], []⟩) R s := by
  k_with "call ref" => (k_here; (show wpAny _ _ (call (Value.ref 101) [Value.ref _]) _ _ _); refine wpAny_call (lrs_code (by k_asm) (by k_asm) (by k_asm) (by k_asm) (by k_asm) rfl rfl (by first | assumption | (dsimp only [Around.deeper]; omega)) (by assumption) (by assumption) ?_); intro _ _ _ _ _; (try dsimp only))
  k_with "call ref" => (k_here; (show wpAny _ _ (call (Value.ref 108) [Value.ref _, Value.int _ _]) _ _ _); refine wpAny_call (indent_code (by k_asm) (by k_asm) (by k_asm) (by k_asm) (by k_asm) rfl rfl (by first | assumption | (dsimp only [Around.deeper]; omega)) (by assumption) (by assumption) (by omega) (by omega) ?_); intro _ _ _ _ _; (try dsimp only))
  k_with "om" => with_reducible first | exact Mine.om205 (by assumption) (by assumption) | exact Mine.om215 (by assumption) | exact Mine.om258 (by assumption) | exact Mine.om321 (by assumption) | exact Mine.om132 (by assumption) (by assumption) | exact Mine.om369 (by assumption) | exact Mine.om410 (by assumption) | exact Mine.om452 (by assumption) (by assumption) | exact Mine.om458 (by assumption) (by assumption) | exact Mine.om460 | exact Mine.om64 (by assumption) | exact Mine.om516 | exact Mine.om526 | fail
  revert X; k_fill; intro X
  have hroom0 : dp < recursionLimit := by omega
  have hx0 := hx
  have hy0 := hy
  have hl : (wsF ws).count.length ≤ 1000 := by have := hok.len; omega
  have hl' : (wsF ws').count.length ≤ 1000 := by have := hok'.len; omega
  have hb1 := lrs_bound hok
  have hb2 := lrs_bound hok'
  obtain ⟨dx, k, T1, C1, kT, kC, cvs, tr, t1, tn1, tn2, tt1, tt2, tm, ts1, tb, hx1, hx2, hx3, hx4, hx5⟩ := hx
  obtain ⟨dy, k', T2, C2, kT', kC', cvs', tr', t1', tn1', tn2', tt1', tt2', tm', ts1', tb', hy1, hy2, hy3, hy4, hy5⟩ := hy
  k_dflt (k_extra "enter")
  k_steps
  · rename (wsF ws').n ≤ (wsF ws).n => h1
    have e : lessF ws ws' = false := by unfold lessF; rw [if_pos h1]
    rw [e] at ret
    exact ret _ _ (by k_asm) (by k_asm)
  · rename ¬ (wsF ws').n ≤ (wsF ws).n => h1
    have e : lessF ws ws' = decide ((wsF ws).nt ≤ (wsF ws').nt) := by unfold lessF; rw [if_neg h1, if_pos ⟨by assumption, by assumption⟩]
    rw [e] at ret
    exact ret _ _ (by k_asm) (by k_asm)
  all_goals
    rename ¬ (wsF ws').n ≤ (wsF ws).n => h1
    have h2 : ¬ (((wsF ws).count.length : Int) ≤ 1 ∧ ((wsF ws').count.length : Int) ≤ 1) := fun q => by omega
    unfold Hold
    rename Fr _ _ _ _ => F1
    with_unfolding_all refine' For_invVF F1 ?k1 ?k2 ?_
    case k1 => exact rfl
    case k2 => exact rfl
    k_steps
    unfold Hold
    rename IsRange _ _ _ _ _ _ _ _ => hR
    rename Fr _ _ _ _ => F2
    rename News _ _ _ _ => N2
    have hmx : -1 ≤ mxF ws ws' ∧ mxF ws ws' ≤ 100 := by unfold mxF; split <;> omega
    have hsm : Builtin.Range.small 2 ((if lrsF ws' > lrsF ws then lrsF ws' else lrsF ws) + 1 + 1) 1 = true := small_one (by omega) (by omega) (by change _ ≤ mxF ws ws' + 1 + 1; omega) (by change mxF ws ws' + 1 + 1 < _; omega)
    have hsz : Builtin.Range.rangeSize 2 ((if lrsF ws' > lrsF ws then lrsF ws' else lrsF ws) + 1 + 1) 1 = ((mxF ws ws').toNat : Int) := by
      change Builtin.Range.rangeSize 2 (mxF ws ws' + 1 + 1) 1 = _
      rw [rangeSize_one]; split <;> omega
    refine rangeLoop (mxF ws ws').toNat [] (fun i m₁ nx => nx = news ∧ ∀ j : Nat, j < i → ¬ indF ws' (2 + (j : Int)) ≤ indF ws (2 + (j : Int))) rfl hR hsm hsz F2 N2 ?_ ?_ ?_
    · exact ⟨rfl, fun j hj => absurd hj (Nat.not_lt_zero _)⟩
    · rintro i t m₁ nx h tk own hi hI0 hoff hp13 F3 N4
      try (refine letQS ?_; intro Q14 s14)
      obtain ⟨rfl, hpre⟩ := hp13
      simp only [List.map, over] at F3
      clear F2 N2 hR
      have hz1 := List.mem_append_left own hx1
      have hz2 := List.mem_append_left own hx2
      have hz3 := List.mem_append_left own hy1
      have hz4 := List.mem_append_left own hy2
      have hw1 := WsIn.mono hx0 (fun p hp => List.mem_append_left own hp)
      have hw2 := WsIn.mono hy0 (fun p hp => List.mem_append_left own hp)
      k_steps
      · rename indF ws' _ ≤ indF ws _ => hbad
        have e := less_no h1 h2 hi hbad
        rw [e] at ret
        exact ret _ _ (by k_asm) (cb_drop (by k_asm) (fun p hp => List.mem_append_left _ hp))
      · unfold Hold
        rename ¬ indF ws' _ ≤ indF ws _ => hgood
        rename Fr _ _ _ _ => F5
        refine ⟨_, _, _, _, nx, rfl, F5, by k_asm, fun p hp => List.mem_append_left _ hp, fun p hp => List.mem_append_right _ hp, hoff, ⟨rfl, ?_⟩, ?_⟩
        · intro j hj
          rcases Nat.lt_or_ge j i with q | q
          · exact hpre j q
          · obtain rfl : j = i := by omega
            exact hgood
        · walk_at "off"
    · rintro m₁ nx h tk hp15 F3 N4
      try (refine letQS ?_; intro Q16 s16)
      obtain ⟨rfl, hpre⟩ := hp15
      simp only [List.map, over] at F3
      clear F2 N2 hR
      rw [less_yes h1 h2 hpre] at ret
      k_steps
      exact ret _ _ (by k_asm) (by k_asm)
end
end Mine
end
-- F06
section
theorem Mine.resetF06 : True := by (w_top off; trivial)
open PySem PySem.W PyProof.Rows
set_option Elab.async false
set_option maxRecDepth 100000
set_option maxHeartbeats 8000000
namespace Mine
theorem truthy_cons {prog : Program} {w : World} {A : Around} {E : Value → Shared → Prop} {s : Shared} {l : Addr} {v : Value} {vs : List Value} {Q : Bool → Shared → Prop} (hl : s.heap.IsList l (v :: vs).toArray) (hfit : vs.toArray.size ≤ 1000000)
    (h : Q true { s with toks := s.toks + 1 + 1 }) : wpAny (model prog w) A (truthy (.ref l)) Q E s :=
  wpAny_truthy_list hl (by rw [List.size_toArray] at hfit ⊢; rw [List.length_cons]; omega) h
theorem truthy_nil {prog : Program} {w : World} {A : Around} {E : Value → Shared → Prop} {s : Shared} {l : Addr} {Q : Bool → Shared → Prop} (hl : s.heap.IsList l ([] : List Value).toArray)
    (h : Q false { s with toks := s.toks + 1 + 1 }) : wpAny (model prog w) A (truthy (.ref l)) Q E s :=
  wpAny_truthy_list hl (by decide) h
theorem popAt0 {prog : Program} {w : World} {A : Around} {E : Value → Shared → Prop} {s : Shared} {h₀ : Heap} {L D : Addr} {m : Str → Option Value} {news news' : List (Addr × Obj)} {n : Nat} {u : Tok} {v : Value} {vs : List Value} {Q : Value → Shared → Prop}
    (F : Fr h₀ L s.heap m) (N : News h₀ L s.heap news) (U : Upd D (listOf (v :: vs).toArray n) (listOf vs.toArray (n + 1)) news news') (hz : vs.toArray.size ≤ 1000000)
    (h : ∀ h', Fr h₀ L h' m → News h₀ L h' news' → Q v { s with heap := h' }) : wpAny (model prog w) A (call (.builtin "list.pop") [.ref D, .int 0 u]) Q E s :=
  kl_popAt (k := 0) (p := []) (q := vs) F N (by decide) (by unfold seqIndex?; simp) rfl U (by rw [List.size_toArray] at hz; rw [List.toList_toArray, List.length_cons, sizeLine_eq]; omega) h
/-- the lexer's dict: lineno, instream, whitespace, pushback -/
noncomputable abbrev lexDict (w : World) (ln : Int) (iv : Value) (pb : Addr) (t1 t2 t3 t4 t5 t6 : Tok) : List DictEntry :=
  [⟨PyData.keyHash w.params (Str.ofString "lineno"), .str (Str.ofString "lineno") t1, .int ln t2⟩, ⟨PyData.keyHash w.params (Str.ofString "instream"), .str (Str.ofString "instream") t3, iv⟩,
   ⟨PyData.keyHash w.params (Str.ofString "whitespace"), .str (Str.ofString "whitespace") t4, .str (Str.ofString "\n\t\r ") t5⟩, ⟨PyData.keyHash w.params (Str.ofString "pushback"), .str (Str.ofString "pushback") t6, .ref pb⟩]
section
variable {w : World} {p : Program} {loose : List Str} {mean : ExcName → Option Value} {mg mb : Str → Option Value} {dp un : Nat} {gd : Option (List Code)} {A₀ : Around} {env : Env} {outer : List Env} {base h₀ : Heap} {L : Addr} {m : Str → Option Value} {news : List (Addr × Obj)} {s : Shared} {R : Result → Shared → Prop}
variable {lx dl pb : Addr} {iv : Value} {ln : Int} {t1 t2 t3 t4 t5 t6 : Tok} {kd kp : Nat} {pvs : List Value}
theorem push_code {v : Value} (B : Below A₀ base outer h₀) (F : Fr h₀ L s.heap m) (X : (hd.heap_39 w.params).In h₀) (N : News h₀ L s.heap ((pb, listOf pvs.toArray kp) :: news)) (T : Top p loose mean mg mb h₀)
    (hf : env.frame = some L) (hke : env.scope.kind = .function) (hroom : dp < recursionLimit) (h1 : (lx, instObj 73 dl) ∈ news) (h2 : (dl, dictOf (lexDict w ln iv pb t1 t2 t3 t4 t5 t6) kd) ∈ news) (hne : ∀ p ∈ news, p.1 ≠ pb) (hsz : pvs.toArray.size ≤ sizeLine)
    (ret : ∀ h' tk', Fr h₀ L h' m → News h₀ L h' ((pb, listOf (pvs ++ [v]).toArray (kp + 1)) :: news) → R (.ok (.ret .none)) { s with heap := h', toks := tk' }) :
    codeAny (model PySem.Challenge.rw_rs0134_01.row.prog w) (Ar dp un gd env outer) (.call (.ref 70) ⟨[.ref lx, v], []⟩) R s := by
  k_with_none
  k_with "execs cons" => (k_here; (fail_if_success with_reducible (rename Mine.NoLet => kL)); (with_reducible refine wpAny_execs_cons ?_); (try dsimp only); refine Mine.letQS ?_; intro _ _)
  k_with "storeName" => (k_here; (fail_if_success with_reducible (rename Mine.NoStore => kL)); k_dflt (refine' Mine.storeLet (by k_asm) (by k_asm) ?_ (by rfl) (by rfl); k_whole; intro _ _ _ _; (try k_sweep)))
  k_with "off" => (intro _; intros; repeat (first | exact rfl | (refine Eq.trans (if_neg (by first | assumption | (refine' Mine.ne_of_out (by assumption) (by repeat (first | with_reducible exact List.mem_cons_self | refine List.mem_cons_of_mem _ ?_))))) ?_)))
  k_with "enter" => (refine' code_def ?enk1 ?enk2 ?enk3 ?enk4 ?enk5 ?enkA ?enkF ?enkK ?enk6 ?enk7 ?enk8 ?enk9 ?enkB ?_ ?enc2 ?enc3 ?enc4 ?enc5; (case enkA => exact rfl); (case enkF => assumption); (case enkK => assumption); (case enk1 => k_asm); (case enk2 => k_asm); (case enk3 => k_asm); (case enk4 => k_asm); (case enk5 => k_asm); (case enk6 => k_is); (case enk7 => k_is); (case enk8 => first | assumption | (show _ < recursionLimit; dsimp only; omega) | ktr_room); (case enk9 => exact BindsTo.of_eq rfl); (case enc5 => decide); (case enkB => exact locs rfl); (case enc2 => exact rfl); (case enc3 => exact rfl); (case enc4 => exact rfl); k_whole; intro _ _ _ _ _ _ _ _ _; (try dsimp only); (try k_fold))
  k_with "InvEndG" => (refine Hold.mk ?_)
  k_with "pyIter ref" => (refine Hold.mk ?_)
  k_with "call ref" => (k_here; (with_reducible show wpAny _ _ (call (Value.ref 28) _) _ _ _); (with_reducible refine wpAny_call (strcoll_code (by k_asm) (by k_asm) (by k_asm) (by k_asm) (by k_asm) rfl rfl (by first | assumption | (dsimp only [Around.deeper]; omega)) ?_)); intro _ _ _ _ _; (try dsimp only))
  k_with "kall" => (first | exact List.forall_mem_nil _ | assumption | exact all_ne_of_lt (by assumption) | (refine' List.forall_mem_cons.mpr ⟨(by k_ne), (by k_all)⟩))
  k_with "call builtin:list.append" => (k_here; (with_reducible show wpAny _ _ (call (Value.builtin _) [Value.ref _, _]) _ _ _); k_dflt (refine' append_K (by k_asm) (by k_asm) (by k_upd) ?_ (by first | assumption | size_fits); k_whole); intro _ _ _; (try k_sweep))
  k_with "brkQ" => (dsimp only [brkQ])
  k_with "BrkEnd" => (refine Hold.mk ?_)
  k_with "call builtin:len" => (k_here; (with_reducible show wpAny _ _ (call (Value.builtin "len") [Value.str _ _]) _ _ _); refine len_str (by omega) ?_)
  k_with "call builtin:len" => (k_here; (with_reducible show wpAny _ _ (call (Value.builtin "len") [Value.ref _]) _ _ _); refine PyProof.Rows.len_list (News.isList (by k_asm) (by with_reducible k_mem)) (by rw [List.size_toArray]; omega) ?_; rw [List.size_toArray])
  k_with "call builtin:len" => (k_here; (with_reducible show wpAny _ _ (call (Value.builtin "len") [Value.ref _]) _ _ _); refine PyProof.Rows.len_tuple (News.isTup (by k_asm) (by with_reducible k_mem)) (by rw [List.size_toArray]; omega) ?_; rw [List.size_toArray])
  k_with "truthy ref" => (k_here; first | refine truthy_cons (News.isList (by k_asm) (by k_mem)) (by assumption) ?_ | refine truthy_nil (News.isList (by k_asm) (by k_mem)) ?_)
  k_with "call builtin:list.pop" => (k_here; k_dflt (refine' popAt0 (by k_asm) (by k_asm) (by k_upd) (by assumption) ?_; k_whole); intro _ _ _; (try k_sweep))
  revert X; k_fill; intro X
  have h1' : (lx, instObj 73 dl) ∈ (pb, listOf pvs.toArray kp) :: news := .tail _ h1
  have h2' : (dl, dictOf (lexDict w ln iv pb t1 t2 t3 t4 t5 t6) kd) ∈ (pb, listOf pvs.toArray kp) :: news := .tail _ h2
  k_dflt (k_extra "enter")
  k_steps
  rename News h₀ L _ _ => N9
  rw [List.push_toArray] at N9
  exact ret _ _ (by k_asm) N9
theorem pop_code {v : Value} (B : Below A₀ base outer h₀) (F : Fr h₀ L s.heap m) (X : (hd.heap_39 w.params).In h₀) (N : News h₀ L s.heap ((pb, listOf (v :: pvs).toArray kp) :: news)) (T : Top p loose mean mg mb h₀)
    (hf : env.frame = some L) (hke : env.scope.kind = .function) (hroom : dp < recursionLimit) (h1 : (lx, instObj 73 dl) ∈ news) (h2 : (dl, dictOf (lexDict w ln iv pb t1 t2 t3 t4 t5 t6) kd) ∈ news) (hne : ∀ p ∈ news, p.1 ≠ pb) (hsz : pvs.toArray.size ≤ 1000000)
    (ret : ∀ h' tk', Fr h₀ L h' m → News h₀ L h' ((pb, listOf pvs.toArray (kp + 1)) :: news) → R (.ok (.ret v)) { s with heap := h', toks := tk' }) :
    codeAny (model PySem.Challenge.rw_rs0134_01.row.prog w) (Ar dp un gd env outer) (.call (.ref 63) ⟨[.ref lx], []⟩) R s := by
  revert X; k_fill; intro X
  have h1' : (lx, instObj 73 dl) ∈ (pb, listOf (v :: pvs).toArray kp) :: news := .tail _ h1
  have h2' : (dl, dictOf (lexDict w ln iv pb t1 t2 t3 t4 t5 t6) kd) ∈ (pb, listOf (v :: pvs).toArray kp) :: news := .tail _ h2
  k_dflt (k_extra "enter")
  k_steps
  exact ret _ _ (by k_asm) (by k_asm)
end
end Mine
end
-- F07
section
theorem Mine.resetF07 : True := by (w_top off; trivial)
open PySem PySem.W PyProof.Rows
set_option Elab.async false
set_option maxRecDepth 100000
set_option maxHeartbeats 8000000
namespace Mine
section
variable {w : World} {p : Program} {loose : List Str} {mean : ExcName → Option Value} {mg mb : Str → Option Value} {dp un : Nat} {gd : Option (List Code)} {A₀ : Around} {env : Env} {outer : List Env} {base h₀ : Heap} {L : Addr} {m : Str → Option Value} {news : List (Addr × Obj)} {s : Shared} {R : Result → Shared → Prop}

theorem lexinit_code {x dx : Addr} {iv : Value} (B : Below A₀ base outer h₀) (F : Fr h₀ L s.heap m) (X : (hd.heap_39 w.params).In h₀) (N : News h₀ L s.heap ((x, instObj 73 dx) :: (dx, dictOf [] 0) :: news)) (T : Top p loose mean mg mb h₀)
    (hf : env.frame = some L) (hke : env.scope.kind = .function) (hroom : dp < recursionLimit) (l1 : ∀ p ∈ news, p.1 < dx) (l2 : @LT.lt Nat _ dx x)
    (ret : ∀ h' tk' pb t1 t2 t3 t4 t5 t6, Fr h₀ L h' m → News h₀ L h' ((pb, listOf ([] : List Value).toArray 0) :: (x, instObj 73 dx) :: (dx, dictOf (lexDict w 1 iv pb t1 t2 t3 t4 t5 t6) 4) :: news) → @LT.lt Nat _ x pb → R (.ok (.ret .none)) { s with heap := h', toks := tk' }) :
    codeAny (model PySem.Challenge.rw_rs0134_01.row.prog w) (Ar dp un gd env outer) (.call (.ref 49) ⟨[.ref x, iv], []⟩) R s := by
  k_with_none
  k_with "execs cons" => (k_here; (fail_if_success with_reducible (rename Mine.NoLet => kL)); (with_reducible refine wpAny_execs_cons ?_); (try dsimp only); refine Mine.letQS ?_; intro _ _)
  k_with "storeName" => (k_here; (fail_if_success with_reducible (rename Mine.NoStore => kL)); k_dflt (refine' Mine.storeLet (by k_asm) (by k_asm) ?_ (by rfl) (by rfl); k_whole; intro _ _ _ _; (try k_sweep)))
  k_with "off" => (intro _; intros; repeat (first | exact rfl | (refine Eq.trans (if_neg (by first | assumption | (refine' Mine.ne_of_out (by assumption) (by repeat (first | with_reducible exact List.mem_cons_self | refine List.mem_cons_of_mem _ ?_))))) ?_)))
  k_with "unf" => (refine' code_defC ?enk1 ?enk2 ?enk3 ?enk4 ?enk5 ?enkA ?enkF ?enkK ?enk6 ?enk7 ?enk8 ?enk9 ?enkB ?enkD ?_ ?enc2 ?enc3 ?enc4; (case enkA => exact rfl); (case enkF => assumption); (case enkK => assumption); (case enk1 => k_asm); (case enk2 => k_asm); (case enk3 => k_asm); (case enk4 => k_asm); (case enk5 => k_asm); (case enk6 => k_is); (case enk7 => k_is); (case enk8 => first | assumption | (show _ < recursionLimit; dsimp only; omega) | ktr_room); (case enk9 => exact BindsTo.of_eq rfl); (case enkB => exact rfl); (case enkD => decide +kernel); (case enc2 => exact rfl); (case enc3 => exact rfl); (case enc4 => exact rfl); k_whole; intro _ _ _ _ _ _ _ zN' zY' zB' _ _ zl1; (try k_lt zl1); k_cells zY'; (try simp only [List.cons_append, List.nil_append] at zN'); (try dsimp only); (try k_lift zB'); (try k_fold))
  k_with "enter" => (refine' code_def ?enk1 ?enk2 ?enk3 ?enk4 ?enk5 ?enkA ?enkF ?enkK ?enk6 ?enk7 ?enk8 ?enk9 ?enkB ?_ ?enc2 ?enc3 ?enc4 ?enc5; (case enkA => exact rfl); (case enkF => assumption); (case enkK => assumption); (case enk1 => k_asm); (case enk2 => k_asm); (case enk3 => k_asm); (case enk4 => k_asm); (case enk5 => k_asm); (case enk6 => k_is); (case enk7 => k_is); (case enk8 => first | assumption | (show _ < recursionLimit; dsimp only; omega) | ktr_room); (case enk9 => exact BindsTo.of_eq rfl); (case enc5 => decide); (case enkB => exact locs rfl); (case enc2 => exact rfl); (case enc3 => exact rfl); (case enc4 => exact rfl); k_whole; intro _ _ _ _ _ _ _ _ _; (try dsimp only); (try k_fold))
  k_with "InvEndG" => (refine Hold.mk ?_)
  k_with "pyIter ref" => (refine Hold.mk ?_)
  k_with "call ref" => (k_here; (with_reducible show wpAny _ _ (call (Value.ref 28) _) _ _ _); (with_reducible refine wpAny_call (strcoll_code (by k_asm) (by k_asm) (by k_asm) (by k_asm) (by k_asm) rfl rfl (by first | assumption | (dsimp only [Around.deeper]; omega)) ?_)); intro _ _ _ _ _; (try dsimp only))
  k_with "kall" => (first | exact List.forall_mem_nil _ | assumption | exact all_ne_of_lt (by assumption) | (refine' List.forall_mem_cons.mpr ⟨(by k_ne), (by k_all)⟩) | exact tbn_neAll (by assumption) | exact tbn_neAll (And.right (by assumption)) | exact tbn_neAll (And.right (And.right (by assumption))) | exact tbn_neAll (And.right (And.right (And.right (by assumption)))) | exact tbn_neAll (And.right (And.right (And.right (And.right (by assumption))))) | exact tbn_neAll (And.right (And.right (And.right (And.right (And.right (by assumption)))))) | exact tbn_neAll (And.right (And.right (And.right (And.right (And.right (And.right (by assumption))))))) | exact tbn_neAll (And.right (And.right (And.right (And.right (And.right (And.right (And.right (by assumption)))))))) | exact tbn_neAll (And.right (And.right (And.right (And.right (And.right (And.right (And.right (And.right (by assumption))))))))) | exact tbn_neAll (And.right (And.right (And.right (And.right (And.right (And.right (And.right (And.right (And.right (by assumption)))))))))) | exact tbn_neAll (And.right (And.right (And.right (And.right (And.right (And.right (And.right (And.right (And.right (And.right (by assumption))))))))))))
  k_with "call builtin:list.append" => (k_here; (with_reducible show wpAny _ _ (call (Value.builtin _) [Value.ref _, _]) _ _ _); k_dflt (refine' append_K (by k_asm) (by k_asm) (by k_upd) ?_ (by first | assumption | size_fits); k_whole); intro _ _ _; (try k_sweep))
  k_with "brkQ" => (dsimp only [brkQ])
  k_with "BrkEnd" => (refine Hold.mk ?_)
  k_with "call builtin:len" => (k_here; (with_reducible show wpAny _ _ (call (Value.builtin "len") [Value.str _ _]) _ _ _); refine len_str (by omega) ?_)
  k_with "call builtin:len" => (k_here; (with_reducible show wpAny _ _ (call (Value.builtin "len") [Value.ref _]) _ _ _); refine PyProof.Rows.len_list (News.isList (by k_asm) (by k_mem)) (by rw [List.size_toArray]; first | omega | (simp only [List.length_cons]; omega)) ?_; rw [List.size_toArray])
  k_with "call builtin:len" => (k_here; (with_reducible show wpAny _ _ (call (Value.builtin "len") [Value.ref _]) _ _ _); refine PyProof.Rows.len_tuple (News.isTup (by k_asm) (by k_mem)) (by rw [List.size_toArray]; omega) ?_; rw [List.size_toArray])
  k_with "kmem" => (with_reducible first | assumption | exact List.mem_cons_self | (refine List.mem_cons_of_mem _ ?_; k_mem) | (refine List.mem_append_left _ ?_; k_mem))
  k_with "CompSrc" => (refine Hold.mk ?_)
  k_with "call builtin:list.pop" => (k_here; k_dflt (refine' popAt0 (by k_asm) (by k_asm) (by k_upd) (by assumption) ?_; k_whole); intro _ _ _; (try k_sweep))
  k_with "om" => with_reducible first | exact Mine.om2 (by assumption) | exact Mine.om476 (by assumption) | exact Mine.om36 | fail
  revert X; k_fill; intro X
  k_dflt (k_extra "enter")
  k_steps
  rename News h₀ L _ _ => N9
  rename Fr h₀ L _ _ => F9
  rename _ ∧ _ ∧ AllLt _ _ => hlt
  exact ret _ _ _ _ _ _ _ _ _ F9 N9 hlt.1
theorem news_turn8 {h₀ h : Heap} {L : Addr} {a b c d e f g i : Addr × Obj} {rest : List (Addr × Obj)} (N : News h₀ L h (a :: b :: c :: d :: e :: f :: g :: i :: rest)) : News h₀ L h (g :: i :: ([a, b, c, d, e, f] ++ rest)) :=
  allC (N _ (.tail _ (.tail _ (.tail _ (.tail _ (.tail _ (.tail _ (.head _)))))))) (allC (N _ (.tail _ (.tail _ (.tail _ (.tail _ (.tail _ (.tail _ (.tail _ (.head _))))))))) (allC (N _ (.head _)) (allC (N _ (.tail _ (.head _))) (allC (N _ (.tail _ (.tail _ (.head _)))) (allC (N _ (.tail _ (.tail _ (.tail _ (.head _))))) (allC (N _ (.tail _ (.tail _ (.tail _ (.tail _ (.head _)))))) (allC (N _ (.tail _ (.tail _ (.tail _ (.tail _ (.tail _ (.head _))))))) (fun p hp => N p (.tail _ (.tail _ (.tail _ (.tail _ (.tail _ (.tail _ (.tail _ (.tail _ (hp)))))))))))))))))
/-- the stream's read: one sign off the list's front, or the empty text -/
noncomputable def ReadOk (w : World) (f lf : Addr) (keep : List (Addr × Obj)) : Prop :=
  ∀ (p : Program) (loose : List Str) (mean : ExcName → Option Value) (mg mb : Str → Option Value) (dp un : Nat) (gd : Option (List Code)) (A₀ : Around) (env : Env) (outer : List Env) (base h₀ : Heap) (L : Addr) (m : Str → Option Value) (news : List (Addr × Obj)) (s : Shared) (R : Result → Shared → Prop) (ls : List Str) (lvs : List Value) (k : Nat) (t : Tok),
    Below A₀ base outer h₀ → Fr h₀ L s.heap m → (hd.heap_39 w.params).In h₀ → News h₀ L s.heap ((lf, listOf lvs.toArray k) :: news) → (∀ q ∈ keep, q ∈ news) → Top p loose mean mg mb h₀ → env.frame = some L → env.scope.kind = .function → dp + 1 < recursionLimit → un + 100 < cLine →
    (∀ p ∈ news, p.1 ≠ lf) → StrsAre lvs ls → ls.length ≤ 1000 → (∀ x ∈ ls, x.length ≤ 1) →
    (∀ lvs' k' t' h' tk', StrsAre lvs' ls.tail → Fr h₀ L h' m → News h₀ L h' ((lf, listOf lvs'.toArray k') :: news) → R (.ok (.ret (.str (ls.headD (Str.ofString "")) t'))) { s with heap := h', toks := tk' }) →
    codeAny (model PySem.Challenge.rw_rs0134_01.row.prog w) (Ar dp un gd env outer) (.call (.ref f) ⟨[.int 1 t], []⟩) R s
noncomputable abbrev streamDict (w : World) (pb f : Addr) (t1 t2 t3 t4 t5 t6 t7 : Tok) : List DictEntry := lexDict w 1 .none pb t1 t2 t3 t4 t5 t6 ++ [⟨PyData.keyHash w.params (Str.ofString "read"), .str (Str.ofString "read") t7, .ref f⟩]
theorem stream_code {lf : Addr} {lvs : List Value} {kl : Nat} (B : Below A₀ base outer h₀) (F : Fr h₀ L s.heap m) (X : (hd.heap_39 w.params).In h₀) (N : News h₀ L s.heap ((145, tabObj #[]) :: (lf, listOf lvs.toArray kl) :: news)) (T : Top p loose mean mg mb h₀) (hC : CodeHd h₀ 149 145)
    (hf : env.frame = some L) (hke : env.scope.kind = .function) (hroom : dp + 2 < recursionLimit) (h145 : ∀ p ∈ news, p.1 ≠ 145) (hlf : @Ne Nat lf 145) (hlfn : ∀ p ∈ news, p.1 ≠ lf)
    (ret : ∀ h' tk' x dx f pb t1 t2 t3 t4 t5 t6 t7 ps keep, Fr h₀ L h' m → News h₀ L h' ((145, tabObj ps) :: (lf, listOf lvs.toArray kl) :: (keep ++ news)) → (x, instObj 73 dx) ∈ keep → (dx, dictOf (streamDict w pb f t1 t2 t3 t4 t5 t6 t7) 5) ∈ keep → (∃ oc od fd sl, (f, (⟨oc, od, .func fd, sl⟩ : Obj)) ∈ keep) →
      (∀ q ∈ keep, q.1 ≠ lf) → (∀ q ∈ keep, q.1 ≠ 145) → (∀ q ∈ keep, ∀ p ∈ news, p.1 < q.1) → ReadOk w f lf keep → R (.ok (.ret (.ref x))) { s with heap := h', toks := tk' }) :
    codeAny (model PySem.Challenge.rw_rs0134_01.row.prog w) (Ar dp un gd env outer) (.call (.ref 150) ⟨[.ref lf], []⟩) R s := by
  k_with "call ref" => (k_here; (with_reducible show wpAny _ _ (call (Value.ref 73) _) _ _ _); k_dflt (refine' call_cls (by k_asm) (by k_asm) (by k_asm) (by k_is) (by k_is) (by k_is) ?_; k_whole); intro _ _ _ zF9 zN9 zl9 zl9'; refine lexinit_code (by k_asm) zF9 (by k_asm) zN9 (by k_asm) rfl rfl (by first | assumption | (dsimp only [Around.deeper, depth_under_make]; omega)) zl9 zl9' ?_; intro _ _ _ _ _ _ _ _ _ _ zN8 _; refine ⟨rfl, ?_⟩; (have l9n := ltN zl9'); (dsimp only [lexDict] at zN8); (try k_lt zl9); (try dsimp only))
  k_with "eval Name" => (k_here; (with_reducible show wpAny _ _ (eval (Expr.Name _ _) (envX _ _ _ _ _ _)) _ _ _); k_dflt (refine' nameX_F (by k_asm) (by rfl) (by k_mem) (by k_asm) ?_ (by rfl) (by rfl); k_whole))
  k_with "om" => with_reducible first | exact Mine.om81 (by assumption) (by assumption) (by assumption) | exact Mine.om158 (by assumption) (by assumption) | exact Mine.om173 (by assumption) (by assumption) | exact Mine.om179 (by assumption) (by assumption) | exact Mine.om249 (by assumption) (by assumption) (by assumption) | exact Mine.om256 (by assumption) | exact Mine.om293 (by assumption) | exact Mine.om309 (by assumption) | exact Mine.om330 (by assumption) | exact Mine.om334 (by assumption) (by assumption) (by assumption) | exact Mine.om347 (by assumption) | exact Mine.om346 (by assumption) | exact Mine.om353 (by assumption) (by assumption) | exact Mine.om356 (by assumption) (by assumption) | exact Mine.om357 (by assumption) (by assumption) | exact Mine.om360 (by assumption) (by assumption) | exact Mine.om387 (by assumption) (by assumption) | exact Mine.om422 (by assumption) | exact Mine.om42 (by assumption) (by assumption) | exact Mine.om64 (by assumption) | exact Mine.om431 (by assumption) | exact Mine.om434 (by assumption) | exact Mine.om435 (by assumption) | exact Mine.om437 (by assumption) | exact Mine.om448 (by assumption) | exact Mine.om453 (by assumption) | exact Mine.om466 (by assumption) | exact Mine.om470 (by assumption) | exact Mine.om272 (by assumption) | exact Mine.om2 (by assumption) | fail
  revert X; k_fill; intro X
  have hroom0 : dp < recursionLimit := by omega
  k_dflt (k_extra "unf")
  rename Fr h₀ L _ _ => FG
  have hC' := CodeHd.keeps hC FG.keep
  rename _ ∧ _ ∧ AllLt _ _ => hL1
  rename _ = Data.cell _ => hcell0
  have hcell := (show Obj.data _ = Data.cell (some (Value.ref lf)) from hcell0)
  clear hcell0
  k_steps
  rename News h₀ L _ _ => N9
  rename Fr h₀ L _ _ => F9
  rename _ ∧ _ ∧ _ ∧ _ ∧ _ ∧ _ ∧ AllLt _ _ => hc1
  rename _ ∧ _ ∧ _ ∧ AllLt _ _ => hx1
  have N10 := news_turn8 N9
  have hnl := ltN (by assumption : _ < _)
  refine ret _ _ _ _ _ _ _ _ _ _ _ _ _ _ _ F9 N10 (.tail _ (.tail _ (.tail _ (.head _)))) (.tail _ (.tail _ (.tail _ (.tail _ (.head _))))) ⟨_, _, _, _, .head _⟩ ?_ ?_ ?_ ?_
  · refine List.forall_mem_cons.mpr ⟨?_, List.forall_mem_cons.mpr ⟨?_, List.forall_mem_cons.mpr ⟨?_, List.forall_mem_cons.mpr ⟨?_, List.forall_mem_cons.mpr ⟨?_, List.forall_mem_cons.mpr ⟨?_, List.forall_mem_nil _⟩⟩⟩⟩⟩⟩ <;> k_ne
  · refine List.forall_mem_cons.mpr ⟨?_, List.forall_mem_cons.mpr ⟨?_, List.forall_mem_cons.mpr ⟨?_, List.forall_mem_cons.mpr ⟨?_, List.forall_mem_cons.mpr ⟨?_, List.forall_mem_cons.mpr ⟨?_, List.forall_mem_nil _⟩⟩⟩⟩⟩⟩ <;> k_ne
  · have q1 := ktn_ltOf hc1.2.2.2.2.2.2
    have q2 := ktn_ltOf hx1.2.2.2
    have q3 := ktn_ltOf hL1.2.2
    refine List.forall_mem_cons.mpr ⟨?_, List.forall_mem_cons.mpr ⟨?_, List.forall_mem_cons.mpr ⟨?_, List.forall_mem_cons.mpr ⟨?_, List.forall_mem_cons.mpr ⟨?_, List.forall_mem_cons.mpr ⟨?_, List.forall_mem_nil _⟩⟩⟩⟩⟩⟩
    all_goals (intro p hp; have r1 := ltN (q1 p hp); have r2 := ltN (q2 p hp); have r3 := ltN (q3 p hp); refine ltN ?_; dsimp only; omega)
  · clear N9 N10 F9 ret N T hC hC' hf hke h145 hlf hlfn hroom hroom0 hnl
    intro p loose mean mg mb dp un gd A₀ env outer base h₀ L m news s R ls lvs k t B F X N hkeep T hf hke hroom hun hne hS hlen hone hret
    have k1 := hkeep _ (.head _)
    have k2 := hkeep _ (.tail _ (.head _))
    have k6 := hkeep _ (.tail _ (.tail _ (.tail _ (.tail _ (.tail _ (.head _))))))
    have hroom0 : dp < recursionLimit := by omega
    revert X; k_fill; intro X
    cases hS with
    | nil =>
      k_dflt (refine' kla_code ?k1 ?k2 ?k3 ?k4 ?k5 ?kA ?kF ?kK ?k6 ?k7 ?k8 ?k9 ?kB ?_ ?c2 ?c3 ?c4 ?c5; (case kA => exact rfl); (case kF => assumption); (case kK => assumption); (case k1 => k_asm); (case k2 => k_asm); (case k3 => k_asm); (case k4 => k_asm); (case k5 => k_asm); (case k6 => k_mem); (case k7 => exact codeRec_news (by k_asm) (by k_mem) (by assumption) (by assumption)); (case k8 => assumption); (case k9 => exact rfl); (case c5 => decide); (case kB => exact locs rfl); (case c2 => exact rfl); (case c3 => exact rfl); (case c4 => exact rfl); k_whole; intro g' L' h' FG' F' N' B' X' T'; (try dsimp only); (try k_lift B'); (try k_fold))
      k_steps
      unfold Hold
      rename IsRange _ _ _ _ _ _ _ _ => hR
      rename Fr _ _ _ _ => F5
      rename News _ _ _ _ => N5
      refine LCg.CompSrc.range (n := 0) rfl F5 N5 hR (by decide) (by decide) (by decide) ?_
      intro g9
      refine LCg.CompRest.zero ?_
      clear F5 N5 hR
      k_steps
      rename Fr h₀ L _ _ => F9
      rename News h₀ L _ _ => N9
      exact hret [] k _ _ _ .nil F9 (cb_drop N9 (fun p hp => .tail _ hp))
    | cons x t0 hS =>
      rename_i vs xs
      have hvl := hS.length
      have hsz : vs.toArray.size ≤ 1000000 := by rw [List.size_toArray]; simp only [List.length_cons] at hlen; omega
      have hsz2 : vs.length ≤ 1000 := by simp only [List.length_cons] at hlen; omega
      k_dflt (refine' kla_code ?k1 ?k2 ?k3 ?k4 ?k5 ?kA ?kF ?kK ?k6 ?k7 ?k8 ?k9 ?kB ?_ ?c2 ?c3 ?c4 ?c5; (case kA => exact rfl); (case kF => assumption); (case kK => assumption); (case k1 => k_asm); (case k2 => k_asm); (case k3 => k_asm); (case k4 => k_asm); (case k5 => k_asm); (case k6 => k_mem); (case k7 => exact codeRec_news (by k_asm) (by k_mem) (by assumption) (by assumption)); (case k8 => assumption); (case k9 => exact rfl); (case c5 => decide); (case kB => exact locs rfl); (case c2 => exact rfl); (case c3 => exact rfl); (case c4 => exact rfl); k_whole; intro g' L' h' FG' F' N' B' X' T'; (try dsimp only); (try k_lift B'); (try k_fold))
      k_steps
      unfold Hold
      rename IsRange _ _ _ _ _ _ _ _ => hR
      rename Fr _ _ _ _ => F5
      rename News _ _ _ _ => N5
      have hif : (if ((Value.str x t0 :: vs).length : Int) < 1 then ((Value.str x t0 :: vs).length : Int) else 1) = 1 := if_neg (by simp only [List.length_cons]; omega)
      rw [hif] at hR
      refine LCg.CompSrc.range (n := 1) rfl F5 N5 hR (by decide) (by decide) (by decide) ?_
      intro g9
      refine LCg.CompRest.succ ?_
      intro v' I' oI' C' oC' D' m' h' tk' E' hv' hC' hx' F6 N6 off' ne'
      clear F5 N5 hR
      have off2 := off'
      simp only [LCg.Off3] at off2
      k_steps
      rename Fr g' L' _ _ => F7
      rename News g' L' _ _ => N7
      refine LCg.CompEnd.intro F7 N7 ((lf, listOf vs.toArray (k + 1)) :: news) (fun p hp => hp) off' trivial ?_
      clear F7 N7
      refine LCg.CompRest.zero ?_
      k_steps
      refine join_listW (News.isList (by k_asm) (by k_mem)) (.cons _ _ .nil) (by decide +kernel) (by have := hone x (.head _); simp only [List.map, List.sum_cons, List.sum_nil, List.length_cons, List.length_nil]; omega) ?_
      intro t5 k5
      k_steps
      rename Fr h₀ L _ _ => F9
      rename News h₀ L _ _ => N9
      have e : Txt.join (Str.ofString "") [x] = x := rfl
      rw [e]
      exact hret vs (k + 1) _ _ _ hS F9 (cb_drop N9 (fun p hp => .tail _ hp))
end
end Mine
end
-- F08
section
theorem Mine.resetF08 : True := by (w_top off; trivial)
open PySem PySem.W PyProof.Rows
set_option Elab.async false
set_option maxRecDepth 100000
set_option maxHeartbeats 8000000
namespace Mine
noncomputable def lnNext (ln : Int) (c : Str) : Int := if (c == Str.ofString "\n") = true then ln + 1 else ln
section
variable {w : World} {p : Program} {loose : List Str} {mean : ExcName → Option Value} {mg mb : Str → Option Value} {dp un : Nat} {gd : Option (List Code)} {A₀ : Around} {env : Env} {outer : List Env} {base h₀ : Heap} {L : Addr} {m : Str → Option Value} {news : List (Addr × Obj)} {s : Shared} {R : Result → Shared → Prop}
variable {lx dl pb st ds pb' f lf : Addr} {ln : Int} {t1 t2 t3 t4 t5 t6 s1 s2 s3 s4 s5 s6 s7 : Tok} {kl : Nat} {lvs : List Value} {ls : List Str} {keep : List (Addr × Obj)}
/-- what the lexer's reading rests on and does not turn -/
structure LexAt (w : World) (lx dl st ds pb' f lf : Addr) (s1 s2 s3 s4 s5 s6 s7 : Tok) (keep : List (Addr × Obj)) : Prop where
  inst : (lx, instObj 73 dl) ∈ keep
  sinst : (st, instObj 73 ds) ∈ keep
  sdict : (ds, dictOf (streamDict w pb' f s1 s2 s3 s4 s5 s6 s7) 5) ∈ keep
  read : ReadOk w f lf keep
  fn : ∃ oc od fd sl, (f, (⟨oc, od, .func fd, sl⟩ : Obj)) ∈ keep
theorem readchar_code (B : Below A₀ base outer h₀) (F : Fr h₀ L s.heap m) (X : (hd.heap_39 w.params).In h₀) (N : News h₀ L s.heap ((lf, listOf lvs.toArray kl) :: (dl, dictOf (lexDict w ln (.ref st) pb t1 t2 t3 t4 t5 t6) 4) :: news)) (T : Top p loose mean mg mb h₀)
    (hf : env.frame = some L) (hke : env.scope.kind = .function) (hroom : dp + 2 < recursionLimit) (hun : un + 110 < cLine) (hx : LexAt w lx dl st ds pb' f lf s1 s2 s3 s4 s5 s6 s7 keep) (hk : ∀ q ∈ keep, q ∈ news)
    (hne1 : ∀ p ∈ news, p.1 ≠ lf) (hne2 : ∀ p ∈ news, p.1 ≠ dl) (hne3 : @Ne Nat lf dl) (hS : StrsAre lvs ls) (hlen : ls.length ≤ 1000) (hone : ∀ x ∈ ls, x.length ≤ 1)
    (ret : ∀ lvs' k' t' t2' h' tk', StrsAre lvs' ls.tail → Fr h₀ L h' m → News h₀ L h' ((lf, listOf lvs'.toArray k') :: (dl, dictOf (lexDict w (lnNext ln (ls.headD (Str.ofString ""))) (.ref st) pb t1 t2' t3 t4 t5 t6) 4) :: news) → R (.ok (.ret (.str (ls.headD (Str.ofString "")) t'))) { s with heap := h', toks := tk' }) :
    codeAny (model PySem.Challenge.rw_rs0134_01.row.prog w) (Ar dp un gd env outer) (.call (.ref 56) ⟨[.ref lx], []⟩) R s := by
  k_with_none
  k_with "execs cons" => (k_here; (fail_if_success with_reducible (rename Mine.NoLet => kL)); (with_reducible refine wpAny_execs_cons ?_); (try dsimp only); refine Mine.letQS ?_; intro _ _)
  k_with "storeName" => (k_here; (fail_if_success with_reducible (rename Mine.NoStore => kL)); k_dflt (refine' Mine.storeLet (by k_asm) (by k_asm) ?_ (by rfl) (by rfl); k_whole; intro _ _ _ _; (try k_sweep)))
  k_with "off" => (intro _; intros; repeat (first | exact rfl | (refine Eq.trans (if_neg (by first | assumption | (refine' Mine.ne_of_out (by assumption) (by repeat (first | with_reducible exact List.mem_cons_self | refine List.mem_cons_of_mem _ ?_))))) ?_)))
  k_with "unf" => (refine' code_defC ?enk1 ?enk2 ?enk3 ?enk4 ?enk5 ?enkA ?enkF ?enkK ?enk6 ?enk7 ?enk8 ?enk9 ?enkB ?enkD ?_ ?enc2 ?enc3 ?enc4; (case enkA => exact rfl); (case enkF => assumption); (case enkK => assumption); (case enk1 => k_asm); (case enk2 => k_asm); (case enk3 => k_asm); (case enk4 => k_asm); (case enk5 => k_asm); (case enk6 => k_is); (case enk7 => k_is); (case enk8 => first | assumption | (show _ < recursionLimit; dsimp only; omega) | ktr_room); (case enk9 => exact BindsTo.of_eq rfl); (case enkB => exact rfl); (case enkD => decide +kernel); (case enc2 => exact rfl); (case enc3 => exact rfl); (case enc4 => exact rfl); k_whole; intro _ _ _ _ _ _ _ zN' zY' zB' _ _ zl1; (try k_lt zl1); k_cells zY'; (try simp only [List.cons_append, List.nil_append] at zN'); (try dsimp only); (try k_lift zB'); (try k_fold))
  k_with "enter" => (refine' code_def ?enk1 ?enk2 ?enk3 ?enk4 ?enk5 ?enkA ?enkF ?enkK ?enk6 ?enk7 ?enk8 ?enk9 ?enkB ?_ ?enc2 ?enc3 ?enc4 ?enc5; (case enkA => exact rfl); (case enkF => assumption); (case enkK => assumption); (case enk1 => k_asm); (case enk2 => k_asm); (case enk3 => k_asm); (case enk4 => k_asm); (case enk5 => k_asm); (case enk6 => k_is); (case enk7 => k_is); (case enk8 => first | assumption | (show _ < recursionLimit; dsimp only; omega) | ktr_room); (case enk9 => exact BindsTo.of_eq rfl); (case enc5 => decide); (case enkB => exact locs rfl); (case enc2 => exact rfl); (case enc3 => exact rfl); (case enc4 => exact rfl); k_whole; intro _ _ _ _ _ _ _ _ _; (try dsimp only); (try k_fold))
  k_with "InvEndG" => (refine Hold.mk ?_)
  k_with "pyIter ref" => (refine Hold.mk ?_)
  k_with "call ref" => (k_here; (with_reducible show wpAny _ _ (call (Value.ref 28) _) _ _ _); (with_reducible refine wpAny_call (strcoll_code (by k_asm) (by k_asm) (by k_asm) (by k_asm) (by k_asm) rfl rfl (by first | assumption | (dsimp only [Around.deeper]; omega)) ?_)); intro _ _ _ _ _; (try dsimp only))
  k_with "kall" => (first | exact List.forall_mem_nil _ | assumption | exact all_ne_of_lt (by assumption) | (refine' List.forall_mem_cons.mpr ⟨(by k_ne), (by k_all)⟩) | exact tbn_neAll (by assumption) | exact tbn_neAll (And.right (by assumption)) | exact tbn_neAll (And.right (And.right (by assumption))) | exact tbn_neAll (And.right (And.right (And.right (by assumption)))) | exact tbn_neAll (And.right (And.right (And.right (And.right (by assumption))))) | exact tbn_neAll (And.right (And.right (And.right (And.right (And.right (by assumption)))))) | exact tbn_neAll (And.right (And.right (And.right (And.right (And.right (And.right (by assumption))))))) | exact tbn_neAll (And.right (And.right (And.right (And.right (And.right (And.right (And.right (by assumption)))))))) | exact tbn_neAll (And.right (And.right (And.right (And.right (And.right (And.right (And.right (And.right (by assumption))))))))) | exact tbn_neAll (And.right (And.right (And.right (And.right (And.right (And.right (And.right (And.right (And.right (by assumption)))))))))) | exact tbn_neAll (And.right (And.right (And.right (And.right (And.right (And.right (And.right (And.right (And.right (And.right (by assumption))))))))))))
  k_with "call builtin:list.append" => (k_here; (with_reducible show wpAny _ _ (call (Value.builtin _) [Value.ref _, _]) _ _ _); k_dflt (refine' append_K (by k_asm) (by k_asm) (by k_upd) ?_ (by first | assumption | size_fits); k_whole); intro _ _ _; (try k_sweep))
  k_with "brkQ" => (dsimp only [brkQ])
  k_with "BrkEnd" => (refine Hold.mk ?_)
  k_with "call builtin:len" => (k_here; (with_reducible show wpAny _ _ (call (Value.builtin "len") [Value.str _ _]) _ _ _); refine len_str (by omega) ?_)
  k_with "call builtin:len" => (k_here; (with_reducible show wpAny _ _ (call (Value.builtin "len") [Value.ref _]) _ _ _); refine PyProof.Rows.len_list (News.isList (by k_asm) (by k_mem)) (by rw [List.size_toArray]; first | omega | (simp only [List.length_cons]; omega)) ?_; rw [List.size_toArray])
  k_with "call builtin:len" => (k_here; (with_reducible show wpAny _ _ (call (Value.builtin "len") [Value.ref _]) _ _ _); refine PyProof.Rows.len_tuple (News.isTup (by k_asm) (by k_mem)) (by rw [List.size_toArray]; omega) ?_; rw [List.size_toArray])
  k_with "kmem" => (with_reducible first | assumption | exact List.mem_cons_self | (refine List.mem_cons_of_mem _ ?_; k_mem) | (refine List.mem_append_left _ ?_; k_mem))
  k_with "CompSrc" => (refine Hold.mk ?_)
  k_with "callWith ref" => (k_here; k_dflt (refine' callWith_F (by exact FnAt.of (by k_asm) (by k_mem)) ?_; k_whole))
  k_with "FnAt" => (k_dflt (exact FnAt.of (by k_asm) (by k_mem)))
  k_with "call ref" => (k_here; (rename ReadOk _ _ _ _ => hread); (show wpAny _ _ (call (Value.ref _) [Value.int 1 _]) _ _ _); refine wpAny_call (hread _ _ _ _ _ _ _ _ _ _ _ _ _ _ _ _ _ _ _ _ _ _ (by k_asm) (by k_asm) (by k_asm) (by k_asm) (by assumption) (by k_asm) rfl rfl (by dsimp only [Around.deeper]; omega) (by dsimp only [Around.deeper]; omega) (by assumption) (by assumption) (by assumption) (by assumption) ?_); intro _ _ _ _ _ _ _ _; (try dsimp only))
  k_with "om" => with_reducible first | exact Mine.om405 (by assumption) | exact Mine.om272 (by assumption) | fail
  revert X; k_fill; intro X
  have hroom0 : dp < recursionLimit := by omega
  have q1 := hk _ hx.inst
  have q2 := hk _ hx.sinst
  have q3 := hk _ hx.sdict
  have q4 := hx.read
  obtain ⟨oc, od, fd, sl, q5⟩ := hx.fn
  replace q5 := hk _ q5
  have hk' : ∀ q ∈ keep, q ∈ (dl, dictOf (lexDict w ln (.ref st) pb t1 t2 t3 t4 t5 t6) 4) :: news := fun q hq => .tail _ (hk q hq)
  have hne4 : ∀ p ∈ (dl, dictOf (lexDict w ln (.ref st) pb t1 t2 t3 t4 t5 t6) 4) :: news, p.1 ≠ lf := List.forall_mem_cons.mpr ⟨fun e => hne3 e.symm, hne1⟩
  dsimp only [streamDict, lexDict, List.cons_append, List.nil_append] at q3 N hk' hne4
  k_dflt (k_extra "enter")
  k_steps
  · rename (_ == Str.ofString "\n") = true => hnl
    rename StrsAre _ _ => hS9
    rename Fr h₀ L _ _ => F8
    rename News h₀ L _ _ => N8
    have e : lnNext ln (ls.headD (Str.ofString "")) = ln + 1 := by unfold lnNext; rw [hnl]; rfl
    rw [e] at ret
    exact ret _ _ _ _ _ _ hS9 F8 N8
  · rename (_ == Str.ofString "\n") = false => hnl
    rename StrsAre _ _ => hS9
    rename Fr h₀ L _ _ => F8
    rename News h₀ L _ _ => N8
    have e : lnNext ln (ls.headD (Str.ofString "")) = ln := by unfold lnNext; rw [hnl]; rfl
    rw [e] at ret
    exact ret _ _ _ _ _ _ hS9 F8 N8
end
end Mine
end
-- F09
section
theorem Mine.resetF09 : True := by (w_top off; trivial)
open PySem PySem.W PyProof.Rows
set_option Elab.async false
set_option maxRecDepth 100000
set_option maxHeartbeats 8000000
namespace Mine
theorem slot_ci_next : Slot "callable_iterator" "__next__" "callable_iterator.__next__" :=
  .of (owner := "callable_iterator") (n := "__next__") (by rw [typeLookup_type, builtinLookup_eq_fast]; kernel_rfl) (by decide +kernel) (by decide +kernel) (by decide +kernel)
    (by first | exact .inl (by decide +kernel) | exact .inr (by decide +kernel)) (by rw [isSubtype_type]; kernel_rfl)
theorem entry_ci_next : entryFor table "callable_iterator.__next__" = some Builtin.«callable_iterator.__next__» := entryFor_of_tree (by kernel_rfl)
theorem owner_ci : Manifest.owners.lookup (String.ofList ['r', 'o', 't', 'a', 'r', 'e', 't', 'i', '_', 'e', 'l', 'b', 'a', 'l', 'l', 'a', 'c'].reverse) = some Manifest.sig_callable_iterator := by kernel_rfl
theorem args_ci_next (a : Value) : argsOk "callable_iterator.__next__" ⟨[a], []⟩ := by
  unfold argsOk; rw [signature?_of (id := "callable_iterator.__next__") (n := ['_', '_', 't', 'x', 'e', 'n', '_', '_']) (o := ['r', 'o', 't', 'a', 'r', 'e', 't', 'i', '_', 'e', 'l', 'b', 'a', 'l', 'l', 'a', 'c']) (by kernel_rfl) owner_ci]; kernel_rfl
theorem args_ci_iter (a : Value) : argsOk "callable_iterator.__iter__" ⟨[a], []⟩ := by
  unfold argsOk; rw [signature?_of (id := "callable_iterator.__iter__") (n := ['_', '_', 'r', 'e', 't', 'i', '_', '_']) (o := ['r', 'o', 't', 'a', 'r', 'e', 't', 'i', '_', 'e', 'l', 'b', 'a', 'l', 'l', 'a', 'c']) (by kernel_rfl) owner_ci]; kernel_rfl
theorem entry_ci_iter : entryFor table "callable_iterator.__iter__" = some Builtin.«dict_keyiterator.__iter__» :=
  entryFor_alias (id' := "dict_keyiterator.__iter__") (by kernel_rfl) rfl (by decide +kernel) (by kernel_rfl)
theorem slot_ci_iter : Slot "callable_iterator" "__iter__" "callable_iterator.__iter__" :=
  .of (owner := "callable_iterator") (n := "__iter__") (by rw [typeLookup_type, builtinLookup_eq_fast]; kernel_rfl) (by decide +kernel) (by decide +kernel) (by decide +kernel)
    (by first | exact .inl (by decide +kernel) | exact .inr (by decide +kernel)) (by rw [isSubtype_type]; kernel_rfl)
noncomputable abbrev endIter : Obj := { cls := .type "callable_iterator", data := .fields #[.none, .none, .bool true] }
noncomputable abbrev callIter (f sent : Value) : Obj := { cls := .type "callable_iterator", data := .fields #[f, sent, .bool false] }
section
variable {prog : Program} {w : World} {A : Around} {E : Value → Shared → Prop} {s : Shared}
theorem wpAny_callBorrowed {f : Value} {pos : List Value} {Q : Value → Shared → Prop} (hc : codeAny (model prog w) A (.call f ⟨pos, []⟩) (fun r s' => match r with | .ok (.ret v) => Q v s' | .ok _ => False | .error e => E e s') s) :
    wpAny (model prog w) A (callBorrowed f pos) Q E s := by
  unfold callBorrowed
  refine PySem.W.X.x_call (hd := none) (codeAny_mono hc fun r s' h => ?_) (by intro e; cases e)
  cases r with
  | error e => exact wpAny_throw h
  | ok fl => cases fl with
    | ret v => exact wpAny_pure h
    | _ => exact h.elim
theorem ci_typeIs {it : Addr} {f sent : Value} (ho : s.heap.get? it = some (callIter f sent)) : s.TypeIs (.ref it) "callable_iterator" := ⟨_, ho, rfl⟩
theorem pyIter_ci {it : Addr} {f sent : Value} {Q : Value → Shared → Prop} (ho : s.heap.get? it = some (callIter f sent)) (h : Q (.ref it) s) : wpAny (model prog w) A (pyIter (.ref it)) Q E s := by
  refine wpAny_pyIter_slot (ci_typeIs ho) slot_ci_iter (wpAny_call_entry slot_ci_iter (ci_typeIs ho) entry_ci_iter ?_ (args_ci_iter _))
  show wpAny _ _ (ret (.ref it)) _ _ s
  exact wpAny_pure ⟨_, rfl, "callable_iterator", _, ci_typeIs ho, slot_ci_next.lookup, h⟩
theorem borrows_method {mb fn : Addr} {self : Value} {oc : Value} {od : Option Addr} {fd : FuncData} {sl : Array (Option Value)} {Q : Bool → Shared → Prop}
    (hm : s.heap.get? mb = some (methodObj (.ref fn) self)) (hfn : s.heap.get? fn = some ⟨oc, od, .func fd, sl⟩) (h : Q true s) : wpAny (model prog w) A (borrowsExactly (.ref mb)) Q E s := by
  unfold borrowsExactly
  refine wpAny_bind (wpAny_load hm ?_)
  show wpAny _ _ (do match (← load fn).data with | .func _ => pure true | _ => pure false) _ _ s
  exact wpAny_bind (wpAny_load hfn (wpAny_pure h))
theorem pyNext_ci {it mb fn : Addr} {self : Value} {oc : Value} {od : Option Addr} {fd : FuncData} {sl : Array (Option Value)} {ts : Tok} {Q : Option Value → Shared → Prop} (hh : A.handled = none)
    (ho : s.heap.get? it = some (callIter (.ref mb) (.str (Str.ofString "") ts))) (hm : s.heap.get? mb = some (methodObj (.ref fn) self)) (hfn : s.heap.get? fn = some ⟨oc, od, .func fd, sl⟩)
    (hc : codeAny (model prog w) A.in1 (.call (.ref mb) ⟨[], []⟩) (fun r s' => ∃ c t, r = .ok (.ret (.str c t)) ∧ s'.heap.get? it = some (callIter (.ref mb) (.str (Str.ofString "") ts)) ∧
      s'.heap.get? mb = some (methodObj (.ref fn) self) ∧ s'.heap.get? fn = some ⟨oc, od, .func fd, sl⟩ ∧
      ((c ≠ Str.ofString "" ∧ Q (some (.str c t)) s') ∨ (c = Str.ofString "" ∧ ∀ h', Heap.ExtBut it s'.heap h' → h'.get? it = some endIter → Q none { s' with heap := h' }))) s) :
    wpAny (model prog w) A (pyNext (.ref it)) Q E s := by
  k_with_none
  k_with "om" => with_reducible first | exact Mine.om36 | fail
  unfold pyNext
  refine wpAny_bind (wpAny_attempt (wpAny_callSpecial?_slot (name := Str.ofString "__next__") (ci_typeIs ho) slot_ci_next
    (wpAny_call_entry slot_ci_next (ci_typeIs ho) entry_ci_next ?_ (args_ci_next _))))
  show wpAny _ _ (field (.ref it) 2 >>= _) _ _ s
  refine wpAny_bind (wpAny_field ho rfl (x := .bool false) rfl ?_)
  show wpAny _ _ (field (.ref it) 0 >>= _) _ _ s
  refine wpAny_bind (wpAny_field ho rfl (x := .ref mb) rfl ?_)
  show wpAny _ _ ((callOutOfASlot (.ref mb)).attempt >>= _) _ _ s
  refine wpAny_bind (wpAny_attempt ?_)
  unfold callOutOfASlot
  refine wpAny_bind (borrows_method hm hfn ?_)
  refine wpAny_callBorrowed (codeAny_mono hc ?_)
  rintro r s' ⟨c, t, rfl, ho', hm', hfn', hq⟩
  show wpAny _ _ (field (.ref it) 2 >>= _) _ _ s'
  refine wpAny_bind (wpAny_field ho' rfl (x := .bool false) rfl ?_)
  show wpAny _ _ (field (.ref it) 1 >>= _) _ _ s'
  refine wpAny_bind (wpAny_field ho' rfl (x := .str (Str.ofString "") ts) rfl ?_)
  refine wpAny_bind (wpAny_holding (eqBool_str ?_))
  rcases hq with ⟨hne, hq⟩ | ⟨rfl, hq⟩
  · have e : (Str.ofString "" == c) = false := by
      cases h : (Str.ofString "" == c) with
      | false => rfl
      | true => exact absurd (by simpa using h : Str.ofString "" = c).symm hne
    rw [e]
    exact wpAny_pure ⟨_, rfl, wpAny_pure hq⟩
  · have e : (Str.ofString "" == Str.ofString "") = true := by simp
    rw [e]
    show wpAny _ _ (rule _ >>= _) _ _ s'
    refine wpAny_bind (wpAny_rule ?_)
    refine wpAny_bind ?_
    show wpAny _ _ (field (.ref it) 0 >>= _) _ _ s'
    refine wpAny_bind (wpAny_field ho' rfl (x := .ref mb) rfl ?_)
    show wpAny _ _ (slotLetsGo _ (.ref mb) _ >>= _) _ _ s'
    refine wpAny_bind ?_
    unfold slotLetsGo
    refine wpAny_bind (borrows_method hm' hfn' ?_)
    refine wpAny_pure ?_
    refine wpAny_bind (wpAny_setField_rec ho' (Nat.le_of_ble_eq_true rfl) fun h1 e1 x1 => ?_)
    refine wpAny_bind (wpAny_setField_rec e1 (Nat.le_of_ble_eq_true rfl) fun h2 e2 x2 => ?_)
    refine wpAny_setField_rec e2 (Nat.le_of_ble_eq_true rfl) fun h3 e3 x3 => ?_
    have e3' : h3.get? it = some endIter := e3
    show wpAny _ _ (newExc (.type "StopIteration") [] >>= _) _ _ _
    refine wpAny_bind ?_
    simp only [newExc, newTuple]
    refine wpAny_bind (wpAny_newObj_type ?_ (by size_fits))
    refine wpAny_bind (m := firstArgMember _ _) (wpAny_of_eq (a := Value.none) (by first | rfl | (simp only [firstArgMember]; rfl)) ?_)
    refine wpAny_newObj_type ?_ (by size_fits)
    simp only [raiseNew]
    refine wpAny_bind (wpAny_handled ?_)
    rw [show A.in1.handled = none from hh]
    refine wpAny_bind (wpAny_pure (wpAny_throw ?_))
    refine wpAny_bind (wpAny_isInstance (T := "StopIteration") (b := true) ⟨_, Heap.get?_push_size _ rfl, rfl⟩ isSubtype_stop ?_)
    exact wpAny_pure (hq _ (((x1.extBut.trans x2.extBut).trans x3.extBut).push _ |>.push _) (Heap.get?_push_of_some _ (Heap.get?_push_of_some _ e3')))
theorem endi_typeIs {it : Addr} (ho : s.heap.get? it = some endIter) : s.TypeIs (.ref it) "callable_iterator" := ⟨_, ho, rfl⟩
theorem pyNext_end {it : Addr} {Q : Option Value → Shared → Prop} (hh : A.handled = none) (ho : s.heap.get? it = some endIter)
    (hq : ∀ h', (∀ b o, s.heap.get? b = some o → h'.get? b = some o) → Q none { s with heap := h' }) : wpAny (model prog w) A (pyNext (.ref it)) Q E s := by
  unfold pyNext
  refine wpAny_bind (wpAny_attempt (wpAny_callSpecial?_slot (name := Str.ofString "__next__") (endi_typeIs ho) slot_ci_next
    (wpAny_call_entry slot_ci_next (endi_typeIs ho) entry_ci_next ?_ (args_ci_next _))))
  show wpAny _ _ (field (.ref it) 2 >>= _) _ _ s
  refine wpAny_bind (wpAny_field ho rfl (x := .bool true) rfl ?_)
  show wpAny _ _ (rule _ >>= _) _ _ s
  refine wpAny_bind (wpAny_rule ?_)
  refine wpAny_bind ?_
  show wpAny _ _ (newExc (.type "StopIteration") [] >>= _) _ _ _
  refine wpAny_bind ?_
  simp only [newExc, newTuple]
  refine wpAny_bind (wpAny_newObj_type ?_ (by size_fits))
  refine wpAny_bind (m := firstArgMember _ _) (wpAny_of_eq (a := Value.none) (by first | rfl | (simp only [firstArgMember]; rfl)) ?_)
  refine wpAny_newObj_type ?_ (by size_fits)
  simp only [raiseNew]
  refine wpAny_bind (wpAny_handled ?_)
  rw [show A.in1.handled = none from hh]
  refine wpAny_bind (wpAny_pure (wpAny_throw ?_))
  refine wpAny_bind (wpAny_isInstance (T := "StopIteration") (b := true) ⟨_, Heap.get?_push_size _ rfl, rfl⟩ isSubtype_stop ?_)
  exact wpAny_pure (hq _ fun b o e => Heap.get?_push_of_some _ (Heap.get?_push_of_some _ e))
theorem args_iter2 (a b : Value) : argsOk "iter" ⟨[a, b], []⟩ := by unfold argsOk; kernel_rfl
theorem slot_method_call : Slot "method" "__call__" "method.__call__" :=
  .of (owner := "method") (n := "__call__") (by rw [typeLookup_type, builtinLookup_eq_fast]; kernel_rfl) (by decide +kernel) (by decide +kernel) (by decide +kernel)
    (by first | exact .inl (by decide +kernel) | exact .inr (by decide +kernel)) (by rw [isSubtype_type]; kernel_rfl)
theorem iter2_K {h₀ : Heap} {L q : Addr} {m : Str → Option Value} {news : List (Addr × Obj)} {f self sv : Value} {Q : Value → Shared → Prop} (F : Fr h₀ L s.heap m) (N : News h₀ L s.heap news) (hq : (q, methodObj f self) ∈ news)
    (h : ∀ D h', Fr h₀ L h' m → News h₀ L h' ((D, callIter (.ref q) sv) :: news) → (∀ p ∈ news, p.1 < D) → Q (.ref D) { s with heap := h' }) : wpAny (model prog w) A (call (.builtin "iter") [.ref q, sv]) Q E s := by
  k_with_none
  k_with "om" => with_reducible first | exact Mine.om527 | fail
  refine PySem.Calls.call_function_entry (by decide +kernel) (by decide +kernel) kdk_entry_iter (args_iter2 _ _) ?_
  unfold Builtin.«iter»
  refine wpAny_bind (m := someArgs "iter" 1 2 _) (wpAny_of_eq (a := [Value.ref q, sv]) (by first | rfl | kernel_rfl!) ?_)
  show wpAny _ _ (specialOf (.ref q) (Str.ofString "__call__") >>= _) _ _ s
  refine wpAny_bind (wpAny_specialOf (T := "method") ⟨_, (N _ hq).1, rfl⟩ slot_method_call.lookup ?_)
  show wpAny _ _ (rule _ >>= _) _ _ s
  refine wpAny_bind (wpAny_rule ?_)
  show wpAny _ _ (do ret (← newFields "callable_iterator" [.ref q, sv, .bool false])) _ _ s
  refine wpAny_bind (wpAny_newObj_type (wpAny_pure ⟨_, rfl, ?_⟩))
  exact h _ _ (F.push _) (N.push F _) fun p hp => Heap.lt_size (N p hp).1
end
end Mine
end
-- F10
section
theorem Mine.resetF10 : True := by (w_top off; trivial)
open PySem PySem.W PyProof.Rows
set_option Elab.async false
set_option maxRecDepth 100000
set_option maxHeartbeats 8000000
namespace Mine
/-- where a turn of a loop over any iterator ends -/
inductive NextEnd (h₀ : Heap) (L : Addr) (J : Nat → (Str → Option Value) → List (Addr × Obj) → Prop) (n : Nat) (s s₃ : Shared) : Prop
  | mk : ∀ (h' : Heap) (tk : Nat) (m₂ : Str → Option Value) (news₂ : List (Addr × Obj)) (n' : Nat), s₃ = { s with heap := h', toks := tk } → Fr h₀ L h' m₂ → News h₀ L h' news₂ → n' < n → J n' m₂ news₂ → NextEnd h₀ L J n s s₃
noncomputable def NextPost (h₀ : Heap) (L : Addr) (J : Nat → (Str → Option Value) → List (Addr × Obj) → Prop) (n : Nat) (s : Shared) (Q : Flow → Shared → Prop) (f : Flow) (s₃ : Shared) : Prop := match f with
  | .next => NextEnd h₀ L J n s s₃
  | .cont => NextEnd h₀ L J n s s₃
  | .brk => Q .next s₃
  | .ret v => Q (.ret v) s₃
theorem NextEnd.intro {h₀ h' : Heap} {L : Addr} {s : Shared} {J : Nat → (Str → Option Value) → List (Addr × Obj) → Prop} {n tk : Nat} {m₂ : Str → Option Value} {news₂ : List (Addr × Obj)} (n' : Nat)
    (F : Fr h₀ L h' m₂) (N : News h₀ L h' news₂) (hn : n' < n) (hJ : J n' m₂ news₂) : NextEnd h₀ L J n s { s with heap := h', toks := tk } := ⟨h', tk, m₂, news₂, n', rfl, F, N, hn, hJ⟩
inductive NInv (h₀ : Heap) (L : Addr) (m₀ : Str → Option Value) (names : List Str) (J : Nat → (Str → Option Value) → List (Addr × Obj) → Prop) (s : Shared) (n : Nat) (s' : Shared) : Prop
  | mk : ∀ (h₁ : Heap) (tk₁ : Nat) (m₁ : Str → Option Value) (news₁ : List (Addr × Obj)), s' = { s with heap := h₁, toks := tk₁ } → Fr h₀ L h₁ m₁ → News h₀ L h₁ news₁ → J n m₁ news₁ → (∀ z, z ∉ names → m₁ z = m₀ z) → NInv h₀ L m₀ names J s n s'
theorem NextEnd.inv {h₀ : Heap} {L : Addr} {m₀ : Str → Option Value} {names : List Str} {J : Nat → (Str → Option Value) → List (Addr × Obj) → Prop} {s s₃ : Shared} {n : Nat} (h : NextEnd h₀ L (fun n' m' nx => J n' m' nx ∧ ∀ z, z ∉ names → m' z = m₀ z) n s s₃) : ∃ m, m < n ∧ NInv h₀ L m₀ names J s m s₃ := by
  obtain ⟨h', tk, m₂, news₂, n', e, F₂, N₂, hn, J₂, hm₂⟩ := h
  exact ⟨n', hn, h', tk, m₂, news₂, e, F₂, N₂, J₂, hm₂⟩
section
variable {prog : Program} {w : World} {A : Around} {E : Value → Shared → Prop} {s : Shared} {env : Env} {h₀ : Heap} {x : Str} {px : Pos} {body : List Stmt} {Q : Flow → Shared → Prop}
noncomputable def ForAt (prog : Program) (w : World) (A : Around) (env : Env) (x : Str) (px : Pos) (body : List Stmt) (Q : Flow → Shared → Prop) (E : Value → Shared → Prop) (it : Value) (s₂ : Shared) : Prop :=
  codeAny (model prog w) A (.forLoop (.Name x px) it body [] env) (fun r s' => match r with | .ok f => Q f s' | .error e => cameBackBy (model prog w) A env E e s') s₂
theorem For_any {m : Str → Option Value} {pos : Pos} {iter : Expr} {L : Addr} (_F : Fr h₀ L s.heap m)
    (h : wpAny (model prog w) A (eval iter env) (fun xv s₁ => wpAny (model prog w) A (pyIter xv) (fun it s₂ => ForAt prog w A env x px body Q E it s₂) E s₁) E s)
    (hs : ∀ x, foldedSetIterable iter env x = pure x := by intro _; rfl) :
    wpAny (model prog w) A (exec (.For (.Name x px) iter body [] pos) env) Q E s := wpAny_For h hs
theorem over_all (names : List Str) (m₁ m₀ : Str → Option Value) (hm : ∀ z, z ∉ names → m₁ z = m₀ z) : m₁ = over (names.map fun y => (y, m₁ y)) m₀ := by
  funext z
  have key : ∀ l : List Str, (∀ y, y ∈ names → y ∈ l ∨ z ≠ y) → m₁ z = over (l.map fun y => (y, m₁ y)) m₀ z := by
    intro l
    induction l with
    | nil =>
      intro hl
      exact hm z fun hz => (hl z hz).elim (fun q => nomatch q) fun q => q rfl
    | cons y r ih =>
      intro hl
      show m₁ z = if z = y then m₁ y else over (r.map fun y => (y, m₁ y)) m₀ z
      by_cases hy : z = y
      · rw [if_pos hy, hy]
      · rw [if_neg hy]
        refine ih fun u hu => (hl u hu).elim (fun q => ?_) .inr
        rcases List.mem_cons.mp q with rfl | q
        · exact .inr hy
        · exact .inl q
  exact key names fun y hy => .inl hy
/-- a loop over any iterator: the turn asks for the next value itself -/
theorem forNext {it : Value} {m₀ : Str → Option Value} {news : List (Addr × Obj)} (names : List Str) (J : Nat → (Str → Option Value) → List (Addr × Obj) → Prop) {n₀ : Nat} {L : Addr}
    (F : Fr h₀ L s.heap m₀) (N : News h₀ L s.heap news) (hJ : J n₀ m₀ news)
    (turn : ∀ n m₁ news₁ h₁ tk₁, Fr h₀ L h₁ (over (names.map fun y => (y, m₁ y)) m₀) → News h₀ L h₁ news₁ → J n m₁ news₁ →
      wpAny (model prog w) A (pyNext it) (fun r s' => match r with
        | none => Q .next s'
        | some v => wpAny (model prog w) A (storeName env x v) (fun _ s₂ => wpAny (model prog w) A (execs body env) (NextPost h₀ L (fun n' m' nx => J n' m' nx ∧ ∀ z, z ∉ names → m' z = m₀ z) n s Q) E s₂) E s') E { s with heap := h₁, toks := tk₁ })
    (hE : PassesOwn (model prog w) A env E := by passes_own) : ForAt prog w A env x px body Q E it s := by
  unfold ForAt
  refine codeAny_forLoop (NInv h₀ L m₀ names J s) ?_ n₀ ⟨s.heap, s.toks, m₀, news, rfl, F, N, hJ, fun _ _ => rfl⟩
  intro n s' hI
  refine letQ ?_; intro Q1
  obtain ⟨h₁, tk₁, m₁, news₁, rfl, F₁, N₁, J₁, hm⟩ := hI
  refine wpAny_mono (turn n m₁ news₁ h₁ tk₁ (over_all names m₁ m₀ hm ▸ F₁) N₁ J₁) (fun r s₂ h₂ => ?_) hE
  cases r with
  | none => exact wpAny_execs_nil h₂
  | some v =>
    refine wpAny_assign_Name (wpAny_mono h₂ (fun _ s₃ h₃ => wpAny_mono h₃ (fun f s₄ h₄ => ?_) hE) hE)
    cases f with
    | next => exact h₄.inv
    | cont => exact NextEnd.inv h₄
    | brk => exact h₄
    | ret v => exact h₄
end
end Mine
end
-- F11
section
theorem Mine.resetF11 : True := by (w_top off; trivial)
open PySem PySem.W PyProof.Rows
set_option Elab.async false
set_option maxRecDepth 100000
set_option maxHeartbeats 8000000
namespace Mine
theorem fr_turn {h₀ h h' : Heap} {L D : Addr} {o : Obj} {m : Str → Option Value} {news : List (Addr × Obj)} (F : Fr h₀ L h m) (N : News h₀ L h news) (hD : (D, o) ∈ news) (e : Heap.ExtBut D h h') : Fr h₀ L h' m :=
  ⟨F.ns.at' fun o' e' => e L o' (fun q => (N _ hD).2.1 q.symm) e', fun b o' e' => e b o' (fun q => by rw [q, (N _ hD).2.2] at e'; cases e') (F.keep b o' e'), F.above⟩
theorem news_turn3 {h₀ h h' : Heap} {L D : Addr} {o o' : Obj} {a b : Addr × Obj} {rest : List (Addr × Obj)} (N : News h₀ L h (a :: b :: (D, o) :: rest)) (e : Heap.ExtBut D h h') (ho : h'.get? D = some o') (ha : a.1 ≠ D) (hb : b.1 ≠ D) (hr : ∀ p ∈ rest, p.1 ≠ D) :
    News h₀ L h' (a :: b :: (D, o') :: rest) := by
  have keep : ∀ p, p ∈ a :: b :: (D, o) :: rest → p.1 ≠ D → h'.get? p.1 = some p.2 ∧ p.1 ≠ L ∧ h₀.get? p.1 = none := fun p hp hne => ⟨e _ _ hne (N p hp).1, (N p hp).2⟩
  have hD := (N (D, o) (.tail _ (.tail _ (.head _)))).2
  intro p hp
  rcases List.mem_cons.mp hp with rfl | hp
  · exact keep _ (.head _) ha
  rcases List.mem_cons.mp hp with rfl | hp
  · exact keep _ (.tail _ (.head _)) hb
  rcases List.mem_cons.mp hp with rfl | hp
  · exact ⟨ho, hD⟩
  · exact keep _ (.tail _ (.tail _ (.tail _ hp))) (hr p hp)
theorem news_drop2 {h₀ h : Heap} {L : Addr} {a b c d : Addr × Obj} {rest : List (Addr × Obj)} (N : News h₀ L h (a :: b :: c :: d :: rest)) : News h₀ L h (a :: b :: rest) :=
  allC (N _ (.head _)) (allC (N _ (.tail _ (.head _))) (fun p hp => N p (.tail _ (.tail _ (.tail _ (.tail _ (hp)))))))
theorem news_front {h₀ h : Heap} {L : Addr} {a b c d : Addr × Obj} {rest : List (Addr × Obj)} (N : News h₀ L h (a :: b :: c :: d :: rest)) : News h₀ L h (c :: d :: a :: b :: rest) :=
  allC (N _ (.tail _ (.tail _ (.head _)))) (allC (N _ (.tail _ (.tail _ (.tail _ (.head _))))) (allC (N _ (.head _)) (allC (N _ (.tail _ (.head _))) (fun p hp => N p (.tail _ (.tail _ (.tail _ (.tail _ (hp)))))))))
noncomputable def wsIn (c : Str) : Bool := !(Builtin.Str.occurrences (Str.ofString "\n\t\r ") c 0 (Str.ofString "\n\t\r ").length 1).isEmpty
noncomputable def quotF : Nat → Str → List Str → Int → Str × List Str × Int
  | 0, acc, ls, ln => (acc, ls, ln)
  | _ + 1, acc, [], ln => (acc, [], ln)
  | n + 1, acc, c :: r, ln => if (c == Str.ofString "\"") = true then (acc, r, lnNext ln c)
    else if (c == Str.ofString "\\") = true then quotF n (acc ++ r.headD (Str.ofString "")) r.tail (lnNext (lnNext ln c) (r.headD (Str.ofString ""))) else quotF n (acc ++ c) r (lnNext ln c)
noncomputable def bareF : Nat → Str → List Str → Int → Str × List Str × Int
  | 0, acc, ls, ln => (acc, ls, ln)
  | _ + 1, acc, [], ln => (acc, [], ln)
  | n + 1, acc, c :: r, ln => if wsIn c = true then (acc, r, lnNext ln c)
    else if (c == Str.ofString "\\") = true then bareF n (acc ++ r.headD (Str.ofString "")) r.tail (lnNext (lnNext ln c) (r.headD (Str.ofString ""))) else bareF n (acc ++ c) r (lnNext ln c)
/-- what get_token reads off the signs that are left -/
noncomputable def tokF : Nat → List Str → Int → Str × List Str × Int
  | 0, ls, ln => (Str.ofString "", ls, ln)
  | _ + 1, [], ln => (Str.ofString "", [], ln)
  | n + 1, c :: r, ln => if wsIn c = true then tokF n r (lnNext ln c)
    else if (c == Str.ofString "\"") = true then quotF n (Str.ofString "") r (lnNext ln c)
    else if (c == Str.ofString "\\") = true then bareF n (Str.ofString "" ++ r.headD (Str.ofString "")) r.tail (lnNext (lnNext ln c) (r.headD (Str.ofString ""))) else bareF n (Str.ofString "" ++ c) r (lnNext ln c)
/-- between two signs of get_token: what stands in the lexer -/
inductive TokO (w : World) (st pb lf dl lx DD qq : Addr) (ts t1 t3 t4 t5 t6 : Tok) (news : List (Addr × Obj)) (res : Str × List Str × Int) (n : Nat) (m₁ : Str → Option Value) (nx : List (Addr × Obj)) : Prop
  | go : ∀ (ls : List Str) (lvs : List Value) (k : Nat) (ln : Int) (t2 t : Tok), StrsAre lvs ls → (∀ x ∈ ls, x.length = 1) → ls.length ≤ 1000 → m₁ (Str.ofString "token") = some (.str (Str.ofString "") t) → ls.length < n → tokF n ls ln = res →
      nx = (lf, listOf lvs.toArray k) :: (dl, dictOf (lexDict w ln (.ref st) pb t1 t2 t3 t4 t5 t6) 4) :: (DD, callIter (.ref qq) (.str (Str.ofString "") ts)) :: (qq, methodObj (.ref 56) (.ref lx)) :: news → TokO w st pb lf dl lx DD qq ts t1 t3 t4 t5 t6 news res n m₁ nx
  | stop : ∀ (ls : List Str) (lvs : List Value) (k : Nat) (ln : Int) (t2 t : Tok) (acc : Str), StrsAre lvs ls → m₁ (Str.ofString "token") = some (.str acc t) → n = 0 → res = (acc, ls, ln) →
      nx = (lf, listOf lvs.toArray k) :: (dl, dictOf (lexDict w ln (.ref st) pb t1 t2 t3 t4 t5 t6) 4) :: (DD, endIter) :: (qq, methodObj (.ref 56) (.ref lx)) :: news → TokO w st pb lf dl lx DD qq ts t1 t3 t4 t5 t6 news res n m₁ nx
/-- the same within a word -/
inductive TokI (fF : Nat → Str → List Str → Int → Str × List Str × Int) (w : World) (st pb lf dl lx DD qq : Addr) (ts t1 t3 t4 t5 t6 : Tok) (news : List (Addr × Obj)) (res : Str × List Str × Int) (n : Nat) (m₁ : Str → Option Value) (nx : List (Addr × Obj)) : Prop
  | mk : ∀ (acc : Str) (ls : List Str) (lvs : List Value) (k : Nat) (ln : Int) (t2 t : Tok), StrsAre lvs ls → (∀ x ∈ ls, x.length = 1) → ls.length ≤ 1000 → ls.length < n → acc.length + ls.length ≤ 2000 → m₁ (Str.ofString "token") = some (.str acc t) → fF n acc ls ln = res →
      nx = (lf, listOf lvs.toArray k) :: (dl, dictOf (lexDict w ln (.ref st) pb t1 t2 t3 t4 t5 t6) 4) :: (DD, callIter (.ref qq) (.str (Str.ofString "") ts)) :: (qq, methodObj (.ref 56) (.ref lx)) :: news → TokI fF w st pb lf dl lx DD qq ts t1 t3 t4 t5 t6 news res n m₁ nx
theorem headD_len {r : List Str} (h : ∀ x ∈ r, x.length = 1) : (r.headD (Str.ofString "")).length ≤ 1 := by
  cases r with
  | nil => exact Nat.zero_le _
  | cons a r => exact Nat.le_of_eq (h a (.head _))
section
variable {w : World} {p : Program} {loose : List Str} {mean : ExcName → Option Value} {mg mb : Str → Option Value} {dp un : Nat} {gd : Option (List Code)} {A₀ : Around} {env : Env} {outer : List Env} {base h₀ : Heap} {L : Addr} {m : Str → Option Value} {news : List (Addr × Obj)} {s : Shared} {R : Result → Shared → Prop}
variable {lx dl pb st ds pb' f lf : Addr} {ln : Int} {t1 t2 t3 t4 t5 t6 s1 s2 s3 s4 s5 s6 s7 : Tok} {kl kp : Nat} {lvs : List Value} {ls : List Str} {keep : List (Addr × Obj)}
theorem next_tok {D q : Addr} {ts : Tok} {E : Value → Shared → Prop} {Q : Option Value → Shared → Prop} (B : Below A₀ base outer h₀) (F : Fr h₀ L s.heap m) (X : (hd.heap_39 w.params).In h₀)
    (N : News h₀ L s.heap ((lf, listOf lvs.toArray kl) :: (dl, dictOf (lexDict w ln (.ref st) pb t1 t2 t3 t4 t5 t6) 4) :: (D, callIter (.ref q) (.str (Str.ofString "") ts)) :: (q, methodObj (.ref 56) (.ref lx)) :: news)) (T : Top p loose mean mg mb h₀)
    (hf : env.frame = some L) (hke : env.scope.kind = .function) (hroom : dp + 2 < recursionLimit) (hun : un + 112 < cLine) (hx : LexAt w lx dl st ds pb' f lf s1 s2 s3 s4 s5 s6 s7 keep) (hk : ∀ q ∈ keep, q ∈ news)
    (hne1 : ∀ p ∈ news, p.1 ≠ lf) (hne2 : ∀ p ∈ news, p.1 ≠ dl) (hneD : ∀ p ∈ news, p.1 ≠ D) (hne3 : @Ne Nat lf dl) (h4 : @LT.lt Nat _ lf q) (h5 : @LT.lt Nat _ dl q) (h6 : @LT.lt Nat _ q D) (hS : StrsAre lvs ls) (hlen : ls.length ≤ 1000) (hone : ∀ x ∈ ls, x.length = 1)
    (hcons : ∀ c r lvs' k' t' t2' h' tk', ls = c :: r → c ≠ Str.ofString "" → StrsAre lvs' r → Fr h₀ L h' m → News h₀ L h' ((lf, listOf lvs'.toArray k') :: (dl, dictOf (lexDict w (lnNext ln c) (.ref st) pb t1 t2' t3 t4 t5 t6) 4) :: (D, callIter (.ref q) (.str (Str.ofString "") ts)) :: (q, methodObj (.ref 56) (.ref lx)) :: news) → Q (some (.str c t')) { s with heap := h', toks := tk' })
    (hnil : ∀ lvs' k' t2' h' tk', ls = [] → StrsAre lvs' [] → Fr h₀ L h' m → News h₀ L h' ((lf, listOf lvs'.toArray k') :: (dl, dictOf (lexDict w ln (.ref st) pb t1 t2' t3 t4 t5 t6) 4) :: (D, endIter) :: (q, methodObj (.ref 56) (.ref lx)) :: news) → Q none { s with heap := h', toks := tk' }) :
    wpAny (model PySem.Challenge.rw_rs0134_01.row.prog w) (Ar dp un gd env outer) (pyNext (.ref D)) Q E s := by
  k_with_none
  k_with "om" => with_reducible first | exact Mine.om395 (by assumption) | fail
  refine pyNext_ci (A := Ar dp un gd env outer) rfl (N _ (.tail _ (.tail _ (.head _)))).1 (N _ (.tail _ (.tail _ (.tail _ (.head _))))).1 ((X.keeps F.keep) 56 _ rfl) (method_call (N _ (.tail _ (.tail _ (.tail _ (.head _))))).1 ?_)
  refine readchar_code (un := un + 1) B F X N T hf hke hroom (by omega) hx (fun q hq => .tail _ (.tail _ (hk q hq))) ?_ ?_ hne3 hS hlen (fun x hx => Nat.le_of_eq (hone x hx)) ?_
  · exact List.forall_mem_cons.mpr ⟨Nat.ne_of_gt (Nat.lt_trans h4 h6), List.forall_mem_cons.mpr ⟨Nat.ne_of_gt h4, hne1⟩⟩
  · exact List.forall_mem_cons.mpr ⟨Nat.ne_of_gt (Nat.lt_trans h5 h6), List.forall_mem_cons.mpr ⟨Nat.ne_of_gt h5, hne2⟩⟩
  intro lv9 k9 t9 t29 h9 tk9 hS9 F9 N9
  refine ⟨_, _, rfl, (N9 _ (.tail _ (.tail _ (.head _)))).1, (N9 _ (.tail _ (.tail _ (.tail _ (.head _))))).1, (X.keeps F9.keep) 56 _ rfl, ?_⟩
  cases ls with
  | nil =>
    refine .inr ⟨rfl, fun h' e e' => ?_⟩
    refine hnil lv9 k9 t29 h' tk9 rfl hS9 (fr_turn F9 N9 (.tail _ (.tail _ (.head _))) e) (news_turn3 N9 e e' (Nat.ne_of_lt (Nat.lt_trans h4 h6)) (Nat.ne_of_lt (Nat.lt_trans h5 h6)) ?_)
    exact List.forall_mem_cons.mpr ⟨Nat.ne_of_lt h6, hneD⟩
  | cons c r =>
    have hc : c ≠ Str.ofString "" := fun e => by have := hone c (.head _); rw [e] at this; exact absurd this (by decide)
    exact .inl ⟨hc, hcons c r lv9 k9 _ t29 h9 tk9 rfl hc hS9 F9 N9⟩
theorem tok_code (B : Below A₀ base outer h₀) (F : Fr h₀ L s.heap m) (X : (hd.heap_39 w.params).In h₀) (N : News h₀ L s.heap ((lf, listOf lvs.toArray kl) :: (dl, dictOf (lexDict w ln (.ref st) pb t1 t2 t3 t4 t5 t6) 4) :: news)) (T : Top p loose mean mg mb h₀)
    (hf : env.frame = some L) (hke : env.scope.kind = .function) (hroom : dp + 4 < recursionLimit) (hun : un + 120 < cLine) (hx : LexAt w lx dl st ds pb' f lf s1 s2 s3 s4 s5 s6 s7 keep) (hk : ∀ q ∈ keep, q ∈ news) (hpb : (pb, listOf ([] : List Value).toArray kp) ∈ news)
    (hne1 : ∀ p ∈ news, p.1 ≠ lf) (hne2 : ∀ p ∈ news, p.1 ≠ dl) (hne3 : @Ne Nat lf dl) (hS : StrsAre lvs ls) (hlen : ls.length ≤ 1000) (hone : ∀ x ∈ ls, x.length = 1)
    (ret : ∀ lvs' k' t' t2' h' tk', StrsAre lvs' (tokF (ls.length + 1) ls ln).2.1 → Fr h₀ L h' m → News h₀ L h' ((lf, listOf lvs'.toArray k') :: (dl, dictOf (lexDict w (tokF (ls.length + 1) ls ln).2.2 (.ref st) pb t1 t2' t3 t4 t5 t6) 4) :: news) → R (.ok (.ret (.str (tokF (ls.length + 1) ls ln).1 t'))) { s with heap := h', toks := tk' }) :
    codeAny (model PySem.Challenge.rw_rs0134_01.row.prog w) (Ar dp un gd env outer) (.call (.ref 63) ⟨[.ref lx], []⟩) R s := by
  k_with "execs cons" => (k_here; (fail_if_success with_reducible (rename Mine.NoLet => kL)); (with_reducible refine wpAny_execs_cons ?_); (try dsimp only); refine Mine.letQS ?_; intro _ _)
  k_with "storeName" => (k_here; (fail_if_success with_reducible (rename Mine.NoStore => kL)); k_dflt (refine' Mine.storeLet (by k_asm) (by k_asm) ?_ (by rfl) (by rfl); k_whole; intro _ _ _ _; (try k_sweep)))
  k_with "off" => (intro _; intros; repeat (first | exact rfl | (refine Eq.trans (if_neg (by first | assumption | (refine' Mine.ne_of_out (by assumption) (by repeat (first | with_reducible exact List.mem_cons_self | refine List.mem_cons_of_mem _ ?_))))) ?_)))
  k_with "unf" => (refine' code_defC ?enk1 ?enk2 ?enk3 ?enk4 ?enk5 ?enkA ?enkF ?enkK ?enk6 ?enk7 ?enk8 ?enk9 ?enkB ?enkD ?_ ?enc2 ?enc3 ?enc4; (case enkA => exact rfl); (case enkF => assumption); (case enkK => assumption); (case enk1 => k_asm); (case enk2 => k_asm); (case enk3 => k_asm); (case enk4 => k_asm); (case enk5 => k_asm); (case enk6 => k_is); (case enk7 => k_is); (case enk8 => first | assumption | (show _ < recursionLimit; dsimp only; omega) | ktr_room); (case enk9 => exact BindsTo.of_eq rfl); (case enkB => exact rfl); (case enkD => decide +kernel); (case enc2 => exact rfl); (case enc3 => exact rfl); (case enc4 => exact rfl); k_whole; intro _ _ _ _ _ _ _ zN' zY' zB' _ _ zl1; (try k_lt zl1); k_cells zY'; (try simp only [List.cons_append, List.nil_append] at zN'); (try dsimp only); (try k_lift zB'); (try k_fold))
  k_with "enter" => (refine' code_def ?enk1 ?enk2 ?enk3 ?enk4 ?enk5 ?enkA ?enkF ?enkK ?enk6 ?enk7 ?enk8 ?enk9 ?enkB ?_ ?enc2 ?enc3 ?enc4 ?enc5; (case enkA => exact rfl); (case enkF => assumption); (case enkK => assumption); (case enk1 => k_asm); (case enk2 => k_asm); (case enk3 => k_asm); (case enk4 => k_asm); (case enk5 => k_asm); (case enk6 => k_is); (case enk7 => k_is); (case enk8 => first | assumption | (show _ < recursionLimit; dsimp only; omega) | ktr_room); (case enk9 => exact BindsTo.of_eq rfl); (case enc5 => decide); (case enkB => exact locs rfl); (case enc2 => exact rfl); (case enc3 => exact rfl); (case enc4 => exact rfl); k_whole; intro _ _ _ _ _ _ _ _ _; (try dsimp only); (try k_fold))
  k_with "InvEndG" => (refine Hold.mk ?_)
  k_with "pyIter ref" => (refine Hold.mk ?_)
  k_with "call ref" => (k_here; (with_reducible show wpAny _ _ (call (Value.ref 28) _) _ _ _); (with_reducible refine wpAny_call (strcoll_code (by k_asm) (by k_asm) (by k_asm) (by k_asm) (by k_asm) rfl rfl (by first | assumption | (dsimp only [Around.deeper]; omega)) ?_)); intro _ _ _ _ _; (try dsimp only))
  k_with "kall" => (first | exact List.forall_mem_nil _ | assumption | exact all_ne_of_lt (by assumption) | (refine' List.forall_mem_cons.mpr ⟨(by k_ne), (by k_all)⟩) | exact tbn_neAll (by assumption) | exact tbn_neAll (And.right (by assumption)) | exact tbn_neAll (And.right (And.right (by assumption))) | exact tbn_neAll (And.right (And.right (And.right (by assumption)))) | exact tbn_neAll (And.right (And.right (And.right (And.right (by assumption))))) | exact tbn_neAll (And.right (And.right (And.right (And.right (And.right (by assumption)))))) | exact tbn_neAll (And.right (And.right (And.right (And.right (And.right (And.right (by assumption))))))) | exact tbn_neAll (And.right (And.right (And.right (And.right (And.right (And.right (And.right (by assumption)))))))) | exact tbn_neAll (And.right (And.right (And.right (And.right (And.right (And.right (And.right (And.right (by assumption))))))))) | exact tbn_neAll (And.right (And.right (And.right (And.right (And.right (And.right (And.right (And.right (And.right (by assumption)))))))))) | exact tbn_neAll (And.right (And.right (And.right (And.right (And.right (And.right (And.right (And.right (And.right (And.right (by assumption))))))))))))
  k_with "call builtin:list.append" => (k_here; (with_reducible show wpAny _ _ (call (Value.builtin _) [Value.ref _, _]) _ _ _); k_dflt (refine' append_K (by k_asm) (by k_asm) (by k_upd) ?_ (by first | assumption | size_fits); k_whole); intro _ _ _; (try k_sweep))
  k_with "brkQ" => (dsimp only [brkQ])
  k_with "BrkEnd" => (refine Hold.mk ?_)
  k_with "call builtin:len" => (k_here; (with_reducible show wpAny _ _ (call (Value.builtin "len") [Value.str _ _]) _ _ _); refine len_str (by omega) ?_)
  k_with "call builtin:len" => (k_here; (with_reducible show wpAny _ _ (call (Value.builtin "len") [Value.ref _]) _ _ _); refine PyProof.Rows.len_list (News.isList (by k_asm) (by k_mem)) (by rw [List.size_toArray]; first | omega | (simp only [List.length_cons]; omega)) ?_; rw [List.size_toArray])
  k_with "call builtin:len" => (k_here; (with_reducible show wpAny _ _ (call (Value.builtin "len") [Value.ref _]) _ _ _); refine PyProof.Rows.len_tuple (News.isTup (by k_asm) (by k_mem)) (by rw [List.size_toArray]; omega) ?_; rw [List.size_toArray])
  k_with "kmem" => (with_reducible first | assumption | exact List.mem_cons_self | (refine List.mem_cons_of_mem _ ?_; k_mem) | (refine List.mem_append_left _ ?_; k_mem))
  k_with "CompSrc" => (refine Hold.mk ?_)
  k_with "exec For Name Name cons nil" => (refine Hold.mk ?_)
  k_with "inplaceOp Add str str" => (refine PyProof.Rows.iadd_str (fun t' tk' => ?_) (by rw [sizeLine_eq]; omega); (try dsimp only))
  k_with "NextPost" => (dsimp only [NextPost])
  k_with "NextEnd" => (refine Hold.mk ?_)
  k_with "truthy ref" => (k_here; first | refine truthy_nil (News.isList (by k_asm) (by k_mem)) ?_)
  k_with "call builtin:iter" => (k_here; k_dflt (refine' iter2_K (by k_asm) (by k_asm) (by k_mem) ?_; k_whole); intro _ _ _ _ zl1; (try k_lt zl1); (try dsimp only))
  k_with "call ref" => (k_here; (show wpAny _ _ (call (Value.ref 56) [Value.ref _]) _ _ _); refine wpAny_call (readchar_code (by k_asm) (by k_asm) (by k_asm) (by k_asm) (by k_asm) rfl rfl (by dsimp only [Around.deeper]; omega) (by dsimp only [Around.deeper]; omega) (by assumption) (by assumption) (by assumption) (by assumption) (by assumption) (by assumption) (by assumption) (by assumption) ?_); intro _ _ _ _ _ _ _ _ _; (try dsimp only))
  k_with "om" => with_reducible first | exact Mine.om56 (by assumption) | exact Mine.om62 (by assumption) | exact Mine.om138 (by assumption) (by assumption) | exact Mine.om154 (by assumption) | exact Mine.om155 (by assumption) | exact Mine.om159 (by assumption) | exact Mine.om27 (by assumption) | exact Mine.om6 (by assumption) | exact Mine.om177 (by assumption) (by assumption) (by assumption) | exact Mine.om195 (by assumption) | exact Mine.om231 (by assumption) (by assumption) | exact Mine.om238 (by assumption) (by assumption) | exact Mine.om276 (by assumption) (by assumption) | exact Mine.om278 (by assumption) | exact Mine.om294 (by assumption) (by assumption) (by assumption) | exact Mine.om325 (by assumption) | exact Mine.om375 (by assumption) (by assumption) | exact Mine.om376 (by assumption) (by assumption) | exact Mine.om389 (by assumption) (by assumption) | exact Mine.om148 (by assumption) | fail
  revert X; k_fill; intro X
  have hroom0 : dp < recursionLimit := by omega
  have q1 := hk _ hx.inst
  dsimp only [lexDict, List.cons_append, List.nil_append] at N
  k_dflt (k_extra "enter")
  k_steps
  unfold Hold
  rename Fr _ _ _ _ => F1
  with_unfolding_all refine' For_any F1 ?_
  k_steps
  unfold Hold
  rename News _ _ _ _ => N1
  refine pyIter_ci (N1 _ (.head _)).1 ?_
  rename _ ∧ _ ∧ _ ∧ AllLt _ _ => lD
  rename _ ∧ _ ∧ AllLt _ _ => lQ
  rename_i gG LL _ FGG BB XX TT _ _ _ _ _ _ _ _ qq _ DD _ _ _ _ _
  have hkq := hk
  have hneD : ∀ p ∈ news, p.1 ≠ DD := all_ne_of_lt (ktn_ltOf lD.2.2.2)
  have hneQ : ∀ p ∈ news, p.1 ≠ qq := all_ne_of_lt (ktn_ltOf lQ.2.2)
  have h4 := ltN lQ.1
  have h5 := ltN lQ.2.1
  have h6 := ltN lD.1
  generalize hts : (_ : Tok) + 1 + 1 + 1 = ts at N1
  have N2 := news_front N1
  clear N1
  have he0 : (Str.ofString "").length = 0 := rfl
  have hkk : ∀ q ∈ keep, q ∈ (DD, callIter (.ref qq) (.str (Str.ofString "") ts)) :: (qq, methodObj (.ref 56) (.ref lx)) :: news := fun q hq => .tail _ (.tail _ (hk q hq))
  have hnn1 : ∀ p ∈ (DD, callIter (.ref qq) (.str (Str.ofString "") ts)) :: (qq, methodObj (.ref 56) (.ref lx)) :: news, p.1 ≠ lf := List.forall_mem_cons.mpr ⟨Nat.ne_of_gt (Nat.lt_trans h4 h6), List.forall_mem_cons.mpr ⟨Nat.ne_of_gt h4, hne1⟩⟩
  have hnn2 : ∀ p ∈ (DD, callIter (.ref qq) (.str (Str.ofString "") ts)) :: (qq, methodObj (.ref 56) (.ref lx)) :: news, p.1 ≠ dl := List.forall_mem_cons.mpr ⟨Nat.ne_of_gt (Nat.lt_trans h5 h6), List.forall_mem_cons.mpr ⟨Nat.ne_of_gt h5, hne2⟩⟩
  generalize hres : tokF (ls.length + 1) ls ln = res at ret
  refine forNext [Str.ofString "token", Str.ofString "ch"] (TokO w st pb lf dl lx DD qq ts t1 t3 t4 t5 t6 news res) (n₀ := ls.length + 1) F1 N2 (.go ls lvs kl ln t2 _ hS hone hlen rfl (Nat.lt_succ_self _) hres rfl) ?_
  clear hres hS hone hlen
  rintro n m₁ news₁ h₁ tk₁ F2 N3 hp17
  try (refine letQS ?_; intro Q18 s18)
  obtain ⟨ls, lvs, k, ln, t2, t, hS, hone, hlen, htok, hn, hres, rfl⟩ | ⟨ls, lvs, k, ln, t2, t, acc, hS, htok, rfl, rfl, rfl⟩ := hp17
  · simp only [List.map, over] at F2
    simp only [htok] at F2
    clear F1 N2
    refine next_tok (outer := env :: outer) (env := envOf _ _ LL _ _) BB F2 XX N3 TT rfl rfl (by (try dsimp only [Around.deeper]); omega) (by (try dsimp only [Around.deeper]); omega) hx hk hne1 hne2 hneD hne3 h4 h5 h6 hS hlen hone ?_ ?_
    · intro c r lvs' k' t' t2' h' tk' els hc hS' F4 N4
      clear F2 N3
      subst els
      have hcl : c.length = 1 := hone c (.head _)
      have hor : ∀ x ∈ r, x.length = 1 := fun x hx => hone x (.tail _ hx)
      have hor' : ∀ x ∈ r, x.length ≤ 1 := fun x hx => Nat.le_of_eq (hor x hx)
      have hhd := headD_len hor
      have hlr : r.length ≤ 1000 := by simp only [List.length_cons] at hlen; omega
      obtain ⟨n, rfl⟩ : ∃ n', n = n' + 1 := ⟨n - 1, by omega⟩
      simp only [List.length_cons] at hn
      have hnr : r.length < n := by omega
      clear hS hone hlen
      try dsimp only
      k_steps
      · unfold Hold
        rename Fr gG LL _ _ => F1
        rename List.isEmpty (Builtin.Str.occurrences _ c _ _ _) = true => hw
        have d1 : wsIn c = false := by unfold wsIn; rw [hw]; rfl
        rename (c == Str.ofString "\"") = true => d2
        with_unfolding_all refine' For_any F1 ?_
        k_steps
        unfold Hold
        rename News gG LL _ _ => N2
        refine pyIter_ci (N2 _ (.tail _ (.tail _ (.head _)))).1 ?_
        refine forNext [Str.ofString "token", Str.ofString "ch"] (TokI quotF w st pb lf dl lx DD qq ts t1 t3 t4 t5 t6 news res) (n₀ := n) F1 N2 ⟨Str.ofString "", r, lvs', k', _, _, t, hS', hor, hlr, hnr, by omega, rfl, by rw [← hres, tokF, if_neg (by rw [d1]; decide), if_pos d2], rfl⟩ ?_
        rintro n2 m₂ news₂ h₂ tk₂ F5 N5 hp19
        try (refine letQS ?_; intro Q20 s20)
        obtain ⟨acc2, ls2, lvs2, k2, ln2, t22, u2, hS2, hone2, hlen2, hn2, hsz2, htok2, hres2, rfl⟩ := hp19
        simp only [List.map, over] at F5
        simp only [htok2] at F5
        clear F1 N2
        refine next_tok (outer := env :: outer) (env := envOf _ _ LL _ _) BB F5 XX N5 TT rfl rfl (by (try dsimp only [Around.deeper]); omega) (by (try dsimp only [Around.deeper]); omega) hx hk hne1 hne2 hneD hne3 h4 h5 h6 hS2 hlen2 hone2 ?_ ?_
        · intro c2 r2 lvs3 k3 t3' t23 h3 tk3 els hc2 hS6 F6 N6
          clear F5 N5
          subst els
          have hcl2 : c2.length = 1 := hone2 c2 (.head _)
          have hor2 : ∀ x ∈ r2, x.length = 1 := fun x hx => hone2 x (.tail _ hx)
          have hor2' : ∀ x ∈ r2, x.length ≤ 1 := fun x hx => Nat.le_of_eq (hor2 x hx)
          have hhd2 := headD_len hor2
          simp only [List.length_cons] at hlen2 hn2 hsz2
          have hlr2 : r2.length ≤ 1000 := by omega
          obtain ⟨n2, rfl⟩ : ∃ n', n2 = n' + 1 := ⟨n2 - 1, by omega⟩
          clear hS2 hone2 hS' hor' hlr
          try dsimp only
          k_steps
          · rename Fr h₀ L _ _ => F9
            rename News h₀ L _ _ => N9
            rename (c2 == Str.ofString "\"") = true => e1
            rw [quotF, if_pos e1] at hres2
            subst hres2
            exact ret _ _ _ _ _ _ hS6 F9 (news_drop2 N9)
          · unfold Hold
            rename Fr gG LL _ _ => F7
            rename News gG LL _ _ => N7
            rename StrsAre _ r2.tail => hS7
            rename (c2 == Str.ofString "\"") = false => e1
            rename (c2 == Str.ofString "\\") = true => e2
            refine NextEnd.intro n2 F7 N7 (Nat.lt_succ_self n2) ⟨⟨acc2 ++ r2.headD (Str.ofString ""), r2.tail, _, _, _, _, _, hS7, fun x hx => hor2 x (List.mem_of_mem_tail hx), by rw [List.length_tail]; omega, by rw [List.length_tail]; omega, by rw [Str.length_append, List.length_tail]; omega, rfl, ?_, rfl⟩, ?_⟩
            · rw [← hres2, quotF, if_neg (by first | assumption | (rw [e1]; decide)), if_pos e2]
            · walk_at "off"
          · unfold Hold
            rename Fr gG LL _ _ => F7
            rename News gG LL _ _ => N7
            rename (c2 == Str.ofString "\"") = false => e1
            rename (c2 == Str.ofString "\\") = false => e2
            refine NextEnd.intro n2 F7 N7 (Nat.lt_succ_self n2) ⟨⟨acc2 ++ c2, r2, _, _, _, _, _, hS6, hor2, by omega, by omega, by rw [Str.length_append]; omega, rfl, ?_, rfl⟩, ?_⟩
            · rw [← hres2, quotF, if_neg (by first | assumption | (rw [e1]; decide)), if_neg (by rw [e2]; decide)]
            · walk_at "off"
        · intro lvs3 k3 t23 h3 tk3 els hS6 F6 N6
          clear F5 N5
          subst els
          obtain ⟨n2, rfl⟩ : ∃ n', n2 = n' + 1 := ⟨n2 - 1, by omega⟩
          rw [quotF] at hres2
          try dsimp only
          k_steps
          unfold Hold
          rename Fr gG LL _ _ => F7
          rename News gG LL _ _ => N7
          refine NextEnd.intro 0 F7 N7 (Nat.succ_pos _) ⟨.stop [] lvs3 k3 _ _ _ _ hS6 rfl rfl hres2.symm rfl, ?_⟩
          walk_at "off"
      · unfold Hold
        rename Fr gG LL _ _ => F1
        rename List.isEmpty (Builtin.Str.occurrences _ c _ _ _) = true => hw
        have d1 : wsIn c = false := by unfold wsIn; rw [hw]; rfl
        rename (c == Str.ofString "\"") = false => d2
        rename (c == Str.ofString "\\") = true => d3
        with_unfolding_all refine' For_any F1 ?_
        k_steps
        unfold Hold
        rename News gG LL _ _ => N2
        refine pyIter_ci (N2 _ (.tail _ (.tail _ (.head _)))).1 ?_
        refine forNext [Str.ofString "token", Str.ofString "ch"] (TokI bareF w st pb lf dl lx DD qq ts t1 t3 t4 t5 t6 news res) (n₀ := n) F1 N2 ⟨_, r.tail, _, _, _, _, _, by assumption, fun x hx => hor x (List.mem_of_mem_tail hx), by rw [List.length_tail]; omega, by rw [List.length_tail]; omega, by rw [Str.length_append, List.length_tail]; omega, rfl, by rw [← hres, tokF, if_neg (by rw [d1]; decide), if_neg (by rw [d2]; decide), if_pos d3], rfl⟩ ?_
        rintro n2 m₂ news₂ h₂ tk₂ F5 N5 hp21
        try (refine letQS ?_; intro Q22 s22)
        obtain ⟨acc2, ls2, lvs2, k2, ln2, t22, u2, hS2, hone2, hlen2, hn2, hsz2, htok2, hres2, rfl⟩ := hp21
        simp only [List.map, over] at F5
        simp only [htok2] at F5
        clear F1 N2
        refine next_tok (outer := env :: outer) (env := envOf _ _ LL _ _) BB F5 XX N5 TT rfl rfl (by (try dsimp only [Around.deeper]); omega) (by (try dsimp only [Around.deeper]); omega) hx hk hne1 hne2 hneD hne3 h4 h5 h6 hS2 hlen2 hone2 ?_ ?_
        · intro c2 r2 lvs3 k3 t3' t23 h3 tk3 els hc2 hS6 F6 N6
          clear F5 N5
          subst els
          have hcl2 : c2.length = 1 := hone2 c2 (.head _)
          have hor2 : ∀ x ∈ r2, x.length = 1 := fun x hx => hone2 x (.tail _ hx)
          have hor2' : ∀ x ∈ r2, x.length ≤ 1 := fun x hx => Nat.le_of_eq (hor2 x hx)
          have hhd2 := headD_len hor2
          simp only [List.length_cons] at hlen2 hn2 hsz2
          have hlr2 : r2.length ≤ 1000 := by omega
          obtain ⟨n2, rfl⟩ : ∃ n', n2 = n' + 1 := ⟨n2 - 1, by omega⟩
          clear hS2 hone2 hS' hor' hlr
          try dsimp only
          k_steps
          · unfold Hold
            rename Fr gG LL _ _ => F7
            rename News gG LL _ _ => N7
            rename StrsAre _ r2.tail => hS7
            rename List.isEmpty (Builtin.Str.occurrences _ c2 _ _ _) = true => hw2
            have e1 : wsIn c2 = false := by unfold wsIn; rw [hw2]; rfl
            rename (c2 == Str.ofString "\\") = true => e2
            refine NextEnd.intro n2 F7 N7 (Nat.lt_succ_self n2) ⟨⟨acc2 ++ r2.headD (Str.ofString ""), r2.tail, _, _, _, _, _, hS7, fun x hx => hor2 x (List.mem_of_mem_tail hx), by rw [List.length_tail]; omega, by rw [List.length_tail]; omega, by rw [Str.length_append, List.length_tail]; omega, rfl, ?_, rfl⟩, ?_⟩
            · rw [← hres2, bareF, if_neg (by first | assumption | (rw [e1]; decide)), if_pos e2]
            · walk_at "off"
          · unfold Hold
            rename Fr gG LL _ _ => F7
            rename News gG LL _ _ => N7
            rename List.isEmpty (Builtin.Str.occurrences _ c2 _ _ _) = true => hw2
            have e1 : wsIn c2 = false := by unfold wsIn; rw [hw2]; rfl
            rename (c2 == Str.ofString "\\") = false => e2
            refine NextEnd.intro n2 F7 N7 (Nat.lt_succ_self n2) ⟨⟨acc2 ++ c2, r2, _, _, _, _, _, hS6, hor2, by omega, by omega, by rw [Str.length_append]; omega, rfl, ?_, rfl⟩, ?_⟩
            · rw [← hres2, bareF, if_neg (by first | assumption | (rw [e1]; decide)), if_neg (by rw [e2]; decide)]
            · walk_at "off"
          · rename Fr h₀ L _ _ => F9
            rename News h₀ L _ _ => N9
            rename List.isEmpty (Builtin.Str.occurrences _ c2 _ _ _) = false => hw2
            have e1 : wsIn c2 = true := by unfold wsIn; rw [hw2]; rfl
            rw [bareF, if_pos e1] at hres2
            subst hres2
            exact ret _ _ _ _ _ _ hS6 F9 (news_drop2 N9)
        · intro lvs3 k3 t23 h3 tk3 els hS6 F6 N6
          clear F5 N5
          subst els
          obtain ⟨n2, rfl⟩ : ∃ n', n2 = n' + 1 := ⟨n2 - 1, by omega⟩
          rw [bareF] at hres2
          try dsimp only
          k_steps
          unfold Hold
          rename Fr gG LL _ _ => F7
          rename News gG LL _ _ => N7
          refine NextEnd.intro 0 F7 N7 (Nat.succ_pos _) ⟨.stop [] lvs3 k3 _ _ _ _ hS6 rfl rfl hres2.symm rfl, ?_⟩
          walk_at "off"
      · unfold Hold
        rename Fr gG LL _ _ => F1
        rename List.isEmpty (Builtin.Str.occurrences _ c _ _ _) = true => hw
        have d1 : wsIn c = false := by unfold wsIn; rw [hw]; rfl
        rename (c == Str.ofString "\"") = false => d2
        rename (c == Str.ofString "\\") = false => d3
        with_unfolding_all refine' For_any F1 ?_
        k_steps
        unfold Hold
        rename News gG LL _ _ => N2
        refine pyIter_ci (N2 _ (.tail _ (.tail _ (.head _)))).1 ?_
        refine forNext [Str.ofString "token", Str.ofString "ch"] (TokI bareF w st pb lf dl lx DD qq ts t1 t3 t4 t5 t6 news res) (n₀ := n) F1 N2 ⟨_, r, lvs', k', _, _, _, hS', hor, hlr, hnr, by rw [Str.length_append]; omega, rfl, by rw [← hres, tokF, if_neg (by rw [d1]; decide), if_neg (by rw [d2]; decide), if_neg (by rw [d3]; decide)], rfl⟩ ?_
        rintro n2 m₂ news₂ h₂ tk₂ F5 N5 hp23
        try (refine letQS ?_; intro Q24 s24)
        obtain ⟨acc2, ls2, lvs2, k2, ln2, t22, u2, hS2, hone2, hlen2, hn2, hsz2, htok2, hres2, rfl⟩ := hp23
        simp only [List.map, over] at F5
        simp only [htok2] at F5
        clear F1 N2
        refine next_tok (outer := env :: outer) (env := envOf _ _ LL _ _) BB F5 XX N5 TT rfl rfl (by (try dsimp only [Around.deeper]); omega) (by (try dsimp only [Around.deeper]); omega) hx hk hne1 hne2 hneD hne3 h4 h5 h6 hS2 hlen2 hone2 ?_ ?_
        · intro c2 r2 lvs3 k3 t3' t23 h3 tk3 els hc2 hS6 F6 N6
          clear F5 N5
          subst els
          have hcl2 : c2.length = 1 := hone2 c2 (.head _)
          have hor2 : ∀ x ∈ r2, x.length = 1 := fun x hx => hone2 x (.tail _ hx)
          have hor2' : ∀ x ∈ r2, x.length ≤ 1 := fun x hx => Nat.le_of_eq (hor2 x hx)
          have hhd2 := headD_len hor2
          simp only [List.length_cons] at hlen2 hn2 hsz2
          have hlr2 : r2.length ≤ 1000 := by omega
          obtain ⟨n2, rfl⟩ : ∃ n', n2 = n' + 1 := ⟨n2 - 1, by omega⟩
          clear hS2 hone2 hS' hor' hlr
          try dsimp only
          k_steps
          · unfold Hold
            rename Fr gG LL _ _ => F7
            rename News gG LL _ _ => N7
            rename StrsAre _ r2.tail => hS7
            rename List.isEmpty (Builtin.Str.occurrences _ c2 _ _ _) = true => hw2
            have e1 : wsIn c2 = false := by unfold wsIn; rw [hw2]; rfl
            rename (c2 == Str.ofString "\\") = true => e2
            refine NextEnd.intro n2 F7 N7 (Nat.lt_succ_self n2) ⟨⟨acc2 ++ r2.headD (Str.ofString ""), r2.tail, _, _, _, _, _, hS7, fun x hx => hor2 x (List.mem_of_mem_tail hx), by rw [List.length_tail]; omega, by rw [List.length_tail]; omega, by rw [Str.length_append, List.length_tail]; omega, rfl, ?_, rfl⟩, ?_⟩
            · rw [← hres2, bareF, if_neg (by first | assumption | (rw [e1]; decide)), if_pos e2]
            · walk_at "off"
          · unfold Hold
            rename Fr gG LL _ _ => F7
            rename News gG LL _ _ => N7
            rename List.isEmpty (Builtin.Str.occurrences _ c2 _ _ _) = true => hw2
            have e1 : wsIn c2 = false := by unfold wsIn; rw [hw2]; rfl
            rename (c2 == Str.ofString "\\") = false => e2
            refine NextEnd.intro n2 F7 N7 (Nat.lt_succ_self n2) ⟨⟨acc2 ++ c2, r2, _, _, _, _, _, hS6, hor2, by omega, by omega, by rw [Str.length_append]; omega, rfl, ?_, rfl⟩, ?_⟩
            · rw [← hres2, bareF, if_neg (by first | assumption | (rw [e1]; decide)), if_neg (by rw [e2]; decide)]
            · walk_at "off"
          · rename Fr h₀ L _ _ => F9
            rename News h₀ L _ _ => N9
            rename List.isEmpty (Builtin.Str.occurrences _ c2 _ _ _) = false => hw2
            have e1 : wsIn c2 = true := by unfold wsIn; rw [hw2]; rfl
            rw [bareF, if_pos e1] at hres2
            subst hres2
            exact ret _ _ _ _ _ _ hS6 F9 (news_drop2 N9)
        · intro lvs3 k3 t23 h3 tk3 els hS6 F6 N6
          clear F5 N5
          subst els
          obtain ⟨n2, rfl⟩ : ∃ n', n2 = n' + 1 := ⟨n2 - 1, by omega⟩
          rw [bareF] at hres2
          try dsimp only
          k_steps
          unfold Hold
          rename Fr gG LL _ _ => F7
          rename News gG LL _ _ => N7
          refine NextEnd.intro 0 F7 N7 (Nat.succ_pos _) ⟨.stop [] lvs3 k3 _ _ _ _ hS6 rfl rfl hres2.symm rfl, ?_⟩
          walk_at "off"
      · unfold Hold
        rename Fr gG LL _ _ => F5
        rename News gG LL _ _ => N5
        rename List.isEmpty _ = false => hws
        refine NextEnd.intro n F5 N5 (Nat.lt_succ_self n) ⟨.go r lvs' k' _ _ t hS' hor hlr rfl hnr ?_ rfl, ?_⟩
        · rw [← hres, tokF, if_pos (by unfold wsIn; rw [hws]; rfl)]
        · walk_at "off"
    · intro lvs' k' t2' h' tk' els hS' F4 N4
      clear F2 N3
      subst els
      obtain ⟨n, rfl⟩ : ∃ n', n = n' + 1 := ⟨n - 1, by omega⟩
      rw [tokF] at hres
      subst hres
      try dsimp only
      k_steps
      rename Fr h₀ L _ _ => F9
      rename News h₀ L _ _ => N9
      exact ret _ _ _ _ _ _ hS' F9 (news_drop2 N9)
  · simp only [List.map, over] at F2
    simp only [htok] at F2
    clear F1 N2
    refine pyNext_end rfl (N3 _ (.tail _ (.tail _ (.head _)))).1 fun h' e => ?_
    have F4 : Fr gG LL h' _ := ⟨F2.ns.at' fun o e' => e _ _ e', fun b o e' => e _ _ (F2.keep b o e'), F2.above⟩
    have N4 : News gG LL h' _ := fun p hp => ⟨e _ _ (N3 p hp).1, (N3 p hp).2⟩
    clear F2 N3
    try dsimp only
    k_steps
    rename Fr h₀ L _ _ => F9
    rename News h₀ L _ _ => N9
    exact ret _ _ _ _ _ _ hS F9 (news_drop2 N9)
end
end Mine
end
-- F12
section
theorem Mine.resetF12 : True := by (w_top off; trivial)
open PySem PySem.W PyProof.Rows
set_option Elab.async false
set_option maxRecDepth 100000
set_option maxHeartbeats 8000000
namespace Mine
section
variable {w : World} {p : Program} {loose : List Str} {mean : ExcName → Option Value} {mg mb : Str → Option Value} {dp un : Nat} {gd : Option (List Code)} {A₀ : Around} {env : Env} {outer : List Env} {base h₀ : Heap} {L : Addr} {m : Str → Option Value} {news : List (Addr × Obj)} {s : Shared} {R : Result → Shared → Prop}
theorem quoted_code {wd : Str} {u1 u2 : Tok} (B : Below A₀ base outer h₀) (F : Fr h₀ L s.heap m) (X : (hd.heap_39 w.params).In h₀) (N : News h₀ L s.heap news) (T : Top p loose mean mg mb h₀)
    (hf : env.frame = some L) (hke : env.scope.kind = .function) (hroom : dp + 1 < recursionLimit) (hlen : wd.length ≤ 200) (hrl : (Txt.replace wd (Str.ofString "\t") (Str.ofString "\\\t")).length ≤ 400)
    (ret : ∀ t' h' tk', Fr h₀ L h' m → News h₀ L h' news → R (.ok (.ret (.str (Str.ofString "\"" ++ Txt.replace wd (Str.ofString "\t") (Str.ofString "\\\t") ++ Str.ofString "\"") t'))) { s with heap := h', toks := tk' }) :
    codeAny (model PySem.Challenge.rw_rs0134_01.row.prog w) (Ar dp un gd env outer) (.call (.ref 174) ⟨[.str wd u1, .int 0 u2], []⟩) R s := by
  k_with_none
  k_with "execs cons" => (k_here; (fail_if_success with_reducible (rename Mine.NoLet => kL)); (with_reducible refine wpAny_execs_cons ?_); (try dsimp only); refine Mine.letQS ?_; intro _ _)
  k_with "storeName" => (k_here; (fail_if_success with_reducible (rename Mine.NoStore => kL)); k_dflt (refine' Mine.storeLet (by k_asm) (by k_asm) ?_ (by rfl) (by rfl); k_whole; intro _ _ _ _; (try k_sweep)))
  k_with "off" => (intro _; intros; repeat (first | exact rfl | (refine Eq.trans (if_neg (by first | assumption | (refine' Mine.ne_of_out (by assumption) (by repeat (first | with_reducible exact List.mem_cons_self | refine List.mem_cons_of_mem _ ?_))))) ?_)))
  k_with "unf" => (refine' code_defC ?enk1 ?enk2 ?enk3 ?enk4 ?enk5 ?enkA ?enkF ?enkK ?enk6 ?enk7 ?enk8 ?enk9 ?enkB ?enkD ?_ ?enc2 ?enc3 ?enc4; (case enkA => exact rfl); (case enkF => assumption); (case enkK => assumption); (case enk1 => k_asm); (case enk2 => k_asm); (case enk3 => k_asm); (case enk4 => k_asm); (case enk5 => k_asm); (case enk6 => k_is); (case enk7 => k_is); (case enk8 => first | assumption | (show _ < recursionLimit; dsimp only; omega) | ktr_room); (case enk9 => exact BindsTo.of_eq rfl); (case enkB => exact rfl); (case enkD => decide +kernel); (case enc2 => exact rfl); (case enc3 => exact rfl); (case enc4 => exact rfl); k_whole; intro _ _ _ _ _ _ _ zN' zY' zB' _ _ zl1; (try k_lt zl1); k_cells zY'; (try simp only [List.cons_append, List.nil_append] at zN'); (try dsimp only); (try k_lift zB'); (try k_fold))
  k_with "enter" => (refine' code_def ?enk1 ?enk2 ?enk3 ?enk4 ?enk5 ?enkA ?enkF ?enkK ?enk6 ?enk7 ?enk8 ?enk9 ?enkB ?_ ?enc2 ?enc3 ?enc4 ?enc5; (case enkA => exact rfl); (case enkF => assumption); (case enkK => assumption); (case enk1 => k_asm); (case enk2 => k_asm); (case enk3 => k_asm); (case enk4 => k_asm); (case enk5 => k_asm); (case enk6 => k_is); (case enk7 => k_is); (case enk8 => first | assumption | (show _ < recursionLimit; dsimp only; omega) | ktr_room); (case enk9 => exact BindsTo.of_eq rfl); (case enc5 => decide); (case enkB => exact locs rfl); (case enc2 => exact rfl); (case enc3 => exact rfl); (case enc4 => exact rfl); k_whole; intro _ _ _ _ _ _ _ _ _; (try dsimp only); (try k_fold))
  k_with "InvEndG" => (refine Hold.mk ?_)
  k_with "pyIter ref" => (refine Hold.mk ?_)
  k_with "call ref" => (k_here; (with_reducible show wpAny _ _ (call (Value.ref 28) _) _ _ _); (with_reducible refine wpAny_call (strcoll_code (by k_asm) (by k_asm) (by k_asm) (by k_asm) (by k_asm) rfl rfl (by first | assumption | (dsimp only [Around.deeper]; omega)) ?_)); intro _ _ _ _ _; (try dsimp only))
  k_with "kall" => (first | exact List.forall_mem_nil _ | assumption | exact all_ne_of_lt (by assumption) | (refine' List.forall_mem_cons.mpr ⟨(by k_ne), (by k_all)⟩) | exact tbn_neAll (by assumption) | exact tbn_neAll (And.right (by assumption)) | exact tbn_neAll (And.right (And.right (by assumption))) | exact tbn_neAll (And.right (And.right (And.right (by assumption)))) | exact tbn_neAll (And.right (And.right (And.right (And.right (by assumption))))) | exact tbn_neAll (And.right (And.right (And.right (And.right (And.right (by assumption)))))) | exact tbn_neAll (And.right (And.right (And.right (And.right (And.right (And.right (by assumption))))))) | exact tbn_neAll (And.right (And.right (And.right (And.right (And.right (And.right (And.right (by assumption)))))))) | exact tbn_neAll (And.right (And.right (And.right (And.right (And.right (And.right (And.right (And.right (by assumption))))))))) | exact tbn_neAll (And.right (And.right (And.right (And.right (And.right (And.right (And.right (And.right (And.right (by assumption)))))))))) | exact tbn_neAll (And.right (And.right (And.right (And.right (And.right (And.right (And.right (And.right (And.right (And.right (by assumption))))))))))))
  k_with "call builtin:list.append" => (k_here; (with_reducible show wpAny _ _ (call (Value.builtin _) [Value.ref _, _]) _ _ _); k_dflt (refine' append_K (by k_asm) (by k_asm) (by k_upd) ?_ (by first | assumption | size_fits); k_whole); intro _ _ _; (try k_sweep))
  k_with "brkQ" => (dsimp only [brkQ])
  k_with "BrkEnd" => (refine Hold.mk ?_)
  k_with "call builtin:len" => (k_here; (with_reducible show wpAny _ _ (call (Value.builtin "len") [Value.str _ _]) _ _ _); refine len_str (by omega) ?_)
  k_with "call builtin:len" => (k_here; (with_reducible show wpAny _ _ (call (Value.builtin "len") [Value.ref _]) _ _ _); refine PyProof.Rows.len_list (News.isList (by k_asm) (by k_mem)) (by rw [List.size_toArray]; first | omega | (simp only [List.length_cons]; omega)) ?_; rw [List.size_toArray])
  k_with "call builtin:len" => (k_here; (with_reducible show wpAny _ _ (call (Value.builtin "len") [Value.ref _]) _ _ _); refine PyProof.Rows.len_tuple (News.isTup (by k_asm) (by k_mem)) (by rw [List.size_toArray]; omega) ?_; rw [List.size_toArray])
  k_with "kmem" => (with_reducible first | assumption | exact List.mem_cons_self | (refine List.mem_cons_of_mem _ ?_; k_mem) | (refine List.mem_append_left _ ?_; k_mem))
  k_with "CompSrc" => (refine Hold.mk ?_)
  k_with "binaryOp Add str str" => (refine PyProof.Rows.add_str (fun t' tk' => ?_) (by rw [sizeLine_eq]; (try rw [Str.length_append]); omega); (try dsimp only))
  k_with "om" => with_reducible first | exact Mine.om362 (by assumption) (by assumption) | exact Mine.om399 (by assumption) (by assumption) | exact Mine.om64 (by assumption) | exact Mine.om494 (by assumption) | fail
  revert X; k_fill; intro X
  have hroom0 : dp < recursionLimit := by omega
  have hq1 : (Str.ofString "\"").length = 1 := rfl
  k_dflt (k_extra "enter")
  k_steps
  exact ret _ _ _ (by k_asm) (by k_asm)
end
end Mine
end
-- F13
section
theorem Mine.resetF13 : True := by (w_top off; trivial)
open PySem PySem.W PyProof.Rows PyProof.Rows.LCg
set_option Elab.async false
set_option maxRecDepth 100000
set_option maxHeartbeats 8000000
namespace Mine
section
variable {prog : Program} {w : World} {A : Around} {E : Value → Shared → Prop} {s : Shared} {env : Env} {h₀ : Heap} {L : Addr} {m : Str → Option Value}
/-- where a comprehension over a text begins -/
noncomputable def SrcS (prog : Program) (w : World) (A : Around) (h₀ : Heap) (L : Addr) (m : Str → Option Value) (env : Env) (elt : Expr) (x : Str) (scope : Scope) (cl : List (Str × Addr)) (Fin : Shared → List Value → List (Addr × Obj) → Prop) (xv : Value) (s₁ : Shared) : Prop :=
  ∃ y t news, xv = .str y t ∧ A.handled = none ∧ Fr h₀ L s₁.heap m ∧ News h₀ L s₁.heap news ∧ y.cps.all (· < 128) = true ∧ y.cps.size ≤ sizeLine ∧
    ∀ g, CompRest prog w A h₀ L m env elt x scope cl { s₁ with heap := g } (fun _ => True) (SignAt y) (Fin { s₁ with heap := g }) y.cps.size 0 [] news
theorem ListComp_S {elt iter : Expr} {x : Str} {px : Pos} {scope : Scope} {cl : List (Str × Addr)} {pos : Pos} {Q : Value → Shared → Prop} (_F₀ : Fr h₀ L s.heap m)
    (hclos : closureFor scope env = pure cl) (hcell : ∀ y ∈ scope.names, y.2 ≠ .cell) (hkind : scope.kind = .function)
    (hnames : ∀ y ∈ scope.names, y.2 = .local → scope.names.lookup y.1 = some .local) (hx : scope.names.lookup x = some .local)
    (h : wpAny (model prog w) A (eval iter env) (SrcS prog w A h₀ L m env elt x scope cl (fun s₂ => FinE h₀ L m s₂ Q)) E s)
    (hs : ∀ x, foldedSetIterable iter env x = pure x := by intro _; rfl) :
    wpAny (model prog w) A (eval (.ListComp elt [⟨.Name x px, iter, [], 0⟩] scope pos) env) Q E s := by
  rw [eval_ListComp]
  refine wpAny_comprehension_free (use := none) rfl hs hclos hkind hnames (wpAny_mono h (fun xv s₁ h₁ => ?_) fun _ _ e => e)
  refine exE3 h₁ ?_; intro y t news hq15
  refine anE7 hq15 ?_; clear hq15; intro hr15 hh F N ha hsz R
  clear h₁
  subst hr15
  refine wpAny_pyIter_ascii ha ?_
  refine block_U (Walks.strAscii hh _ y t) hsz (fun i h st => let ⟨o, ho, _⟩ := st; ⟨o, ho⟩) (fun i h h' o nw st e e' _ _ _ => ?_) hcell hkind hx ⟨_, Heap.get?_push_size _ rfl, rfl, rfl⟩ (fun b hb => ?_)
    (F.keeps fun _ _ e => Heap.get?_push_of_some _ e) (N.grown fun _ _ e => Heap.get?_push_of_some _ e) (Nat.ne_of_lt F.ns.lt) (next_is_new F) (fun p hp => Nat.ne_of_lt (Heap.lt_size (N p hp).1)) trivial (R _) ?_
  · obtain ⟨o', q, r⟩ := st
    rw [e] at q
    cases q
    exact ⟨o, e', r⟩
  · rw [List.mem_singleton.mp hb]
    show s₁.heap.objs.size < (s₁.heap.push _).objs.size
    rw [Heap.size_push]; exact Nat.lt_succ_self _
  · intro D C h tk m' ys news' F' N' o1 hn hC₀ hD₀ hCL hDL hCD offC fin
    refine ⟨m', hn, fun h'' hs'' => fin D h'' tk (F'.change hs'' hCL hC₀) (fun p hp => ?_) o1⟩
    refine ⟨hs''.extBut _ _ ?_ (N' p hp).1, (N' p hp).2⟩
    rcases List.mem_cons.mp hp with rfl | hp
    · exact Ne.symm hCD
    · exact offC p hp
/-- a comprehension by what holds of the list so far and of the ledger -/
theorem compInd {elt : Expr} {x : Str} {scope : Scope} {cl : List (Str × Addr)} {S : List (Addr × Obj) → Prop} {P : Nat → Value → Prop} {Fin : List Value → List (Addr × Obj) → Prop} {n : Nat} {news : List (Addr × Obj)} (K : Nat → List Value → List (Addr × Obj) → Prop)
    (h0 : K 0 [] news)
    (turn : ∀ i ys news₁ v I oI C oC D m₂ h tk (E' : Value → Shared → Prop), i < n → K i ys news₁ → P i v → NsObj oC m₂ → m₂ x = some v → Fr h₀ L h m → News h₀ L h ((I, oI) :: (C, oC) :: (D, lst ys) :: news₁) → Off3 I C D news₁ → ((@Ne Nat I C) ∧ (@Ne Nat I D) ∧ (@Ne Nat C D)) →
      wpAny (model prog w) A (eval elt (compEnvC scope cl C env)) (CompEnd h₀ L m { s with heap := h, toks := tk } I oI C oC D (lst ys) S (fun y news' => K (i + 1) (ys ++ [y]) news')) E' { s with heap := h, toks := tk })
    (fin : ∀ ys news₁, K n ys news₁ → Fin ys news₁) : CompRest prog w A h₀ L m env elt x scope cl s S P Fin n 0 [] news := by
  k_with_none
  k_with "om" => with_reducible first | exact Mine.om348 (by assumption) | exact Mine.om444 (by assumption) | exact Mine.om486 | fail
  have key : ∀ k i ys news₁, i + k = n → K i ys news₁ → CompRest prog w A h₀ L m env elt x scope cl s S P Fin k i ys news₁ := by
    intro k
    induction k with
    | zero =>
      intro i ys news₁ e hK
      obtain rfl : i = n := by omega
      exact fin ys news₁ hK
    | succ k ih =>
      intro i ys news₁ e hK v I oI C oC D m₂ h tk E' hP hC hx F N off ne
      refine wpAny_mono (turn i ys news₁ v I oI C oC D m₂ h tk E' (by omega) hK hP hC hx F N off ne) (fun y s' hy => ?_) fun _ _ e => e
      refine exE3 hy ?_; intro h' tk' news' hq17
      refine anE6 hq17 ?_; clear hq17; intro hr17 F' N' off' hS' hK'
      clear hy
      subst hr17
      exact ⟨h', tk', news', rfl, F', N', off', hS', ih (i + 1) _ news' (by omega) hK'⟩
  exact key n 0 [] news (by omega) h0
end
end Mine
end
-- F14
section
theorem Mine.resetF14 : True := by (w_top off; trivial)
open PySem PySem.W PyProof.Rows
set_option Elab.async false
set_option maxRecDepth 100000
set_option maxHeartbeats 8000000
namespace Mine
open PyProof.Rows.LCg
/-- a sign as the bare writing shows it -/
noncomputable def escF (c : Nat) : Str := if (Builtin.Str.occurrences (Str.ofString "abcde") ⟨#[c]⟩ 0 (Str.ofString "abcde").length 1).isEmpty = false then ⟨#[c]⟩ else Str.ofString "\\" ++ ⟨#[c]⟩
theorem escF_len (c : Nat) : (escF c).length ≤ 2 := by
  unfold escF
  split
  · exact Nat.le_of_ble_eq_true rfl
  · rw [Str.length_append]; exact Nat.le_of_ble_eq_true rfl
theorem esc_sum (l : List Nat) : ((l.map escF).map Str.length).sum ≤ 2 * l.length := by
  k_with_none
  k_with "om" => with_reducible first | exact Mine.om315 (by assumption) (by assumption) | fail
  induction l with
  | nil => exact Nat.zero_le _
  | cons c l ih => simp only [List.map, List.sum_cons, List.length_cons]; have := escF_len c; omega
theorem take_next {l : Array Nat} {i c : Nat} (h : l[i]? = some c) : l.toList.take (i + 1) = l.toList.take i ++ [c] := by
  rw [List.take_succ, Array.getElem?_toList, h]; rfl
section
variable {w : World} {p : Program} {loose : List Str} {mean : ExcName → Option Value} {mg mb : Str → Option Value} {dp un : Nat} {gd : Option (List Code)} {A₀ : Around} {env : Env} {outer : List Env} {base h₀ : Heap} {L : Addr} {m : Str → Option Value} {news : List (Addr × Obj)} {s : Shared} {R : Result → Shared → Prop}
theorem bare_code {wd : Str} {u1 u2 : Tok} (B : Below A₀ base outer h₀) (F : Fr h₀ L s.heap m) (X : (hd.heap_39 w.params).In h₀) (N : News h₀ L s.heap news) (T : Top p loose mean mg mb h₀)
    (hf : env.frame = some L) (hke : env.scope.kind = .function) (hroom : dp + 1 < recursionLimit) (hlen : wd.cps.size ≤ 200) (hasc : wd.cps.all (· < 128) = true) (hjl : (Txt.join (Str.ofString "") (wd.cps.toList.map escF)).length ≤ 1000)
    (ret : ∀ t' h' tk', Fr h₀ L h' m → News h₀ L h' news → R (.ok (.ret (.str (Txt.join (Str.ofString "") (wd.cps.toList.map escF) ++ Str.ofString "\n\n") t'))) { s with heap := h', toks := tk' }) :
    codeAny (model PySem.Challenge.rw_rs0134_01.row.prog w) (Ar dp un gd env outer) (.call (.ref 174) ⟨[.str wd u1, .int 1 u2], []⟩) R s := by
  k_with "execs cons" => (k_here; (fail_if_success with_reducible (rename Mine.NoLet => kL)); (with_reducible refine wpAny_execs_cons ?_); (try dsimp only); refine Mine.letQS ?_; intro _ _)
  k_with "storeName" => (k_here; (fail_if_success with_reducible (rename Mine.NoStore => kL)); k_dflt (refine' Mine.storeLet (by k_asm) (by k_asm) ?_ (by rfl) (by rfl); k_whole; intro _ _ _ _; (try k_sweep)))
  k_with "off" => (intro _; intros; repeat (first | exact rfl | (refine Eq.trans (if_neg (by first | assumption | (refine' Mine.ne_of_out (by assumption) (by repeat (first | with_reducible exact List.mem_cons_self | refine List.mem_cons_of_mem _ ?_))))) ?_)))
  k_with "unf" => (refine' code_defC ?enk1 ?enk2 ?enk3 ?enk4 ?enk5 ?enkA ?enkF ?enkK ?enk6 ?enk7 ?enk8 ?enk9 ?enkB ?enkD ?_ ?enc2 ?enc3 ?enc4; (case enkA => exact rfl); (case enkF => assumption); (case enkK => assumption); (case enk1 => k_asm); (case enk2 => k_asm); (case enk3 => k_asm); (case enk4 => k_asm); (case enk5 => k_asm); (case enk6 => k_is); (case enk7 => k_is); (case enk8 => first | assumption | (show _ < recursionLimit; dsimp only; omega) | ktr_room); (case enk9 => exact BindsTo.of_eq rfl); (case enkB => exact rfl); (case enkD => decide +kernel); (case enc2 => exact rfl); (case enc3 => exact rfl); (case enc4 => exact rfl); k_whole; intro _ _ _ _ _ _ _ zN' zY' zB' _ _ zl1; (try k_lt zl1); k_cells zY'; (try simp only [List.cons_append, List.nil_append] at zN'); (try dsimp only); (try k_lift zB'); (try k_fold))
  k_with "enter" => (refine' code_def ?enk1 ?enk2 ?enk3 ?enk4 ?enk5 ?enkA ?enkF ?enkK ?enk6 ?enk7 ?enk8 ?enk9 ?enkB ?_ ?enc2 ?enc3 ?enc4 ?enc5; (case enkA => exact rfl); (case enkF => assumption); (case enkK => assumption); (case enk1 => k_asm); (case enk2 => k_asm); (case enk3 => k_asm); (case enk4 => k_asm); (case enk5 => k_asm); (case enk6 => k_is); (case enk7 => k_is); (case enk8 => first | assumption | (show _ < recursionLimit; dsimp only; omega) | ktr_room); (case enk9 => exact BindsTo.of_eq rfl); (case enc5 => decide); (case enkB => exact locs rfl); (case enc2 => exact rfl); (case enc3 => exact rfl); (case enc4 => exact rfl); k_whole; intro _ _ _ _ _ _ _ _ _; (try dsimp only); (try k_fold))
  k_with "InvEndG" => (refine Hold.mk ?_)
  k_with "pyIter ref" => (refine Hold.mk ?_)
  k_with "call ref" => (k_here; (with_reducible show wpAny _ _ (call (Value.ref 28) _) _ _ _); (with_reducible refine wpAny_call (strcoll_code (by k_asm) (by k_asm) (by k_asm) (by k_asm) (by k_asm) rfl rfl (by first | assumption | (dsimp only [Around.deeper]; omega)) ?_)); intro _ _ _ _ _; (try dsimp only))
  k_with "kall" => (first | exact List.forall_mem_nil _ | assumption | exact all_ne_of_lt (by assumption) | (refine' List.forall_mem_cons.mpr ⟨(by k_ne), (by k_all)⟩) | exact tbn_neAll (by assumption) | exact tbn_neAll (And.right (by assumption)) | exact tbn_neAll (And.right (And.right (by assumption))) | exact tbn_neAll (And.right (And.right (And.right (by assumption)))) | exact tbn_neAll (And.right (And.right (And.right (And.right (by assumption))))) | exact tbn_neAll (And.right (And.right (And.right (And.right (And.right (by assumption)))))) | exact tbn_neAll (And.right (And.right (And.right (And.right (And.right (And.right (by assumption))))))) | exact tbn_neAll (And.right (And.right (And.right (And.right (And.right (And.right (And.right (by assumption)))))))) | exact tbn_neAll (And.right (And.right (And.right (And.right (And.right (And.right (And.right (And.right (by assumption))))))))) | exact tbn_neAll (And.right (And.right (And.right (And.right (And.right (And.right (And.right (And.right (And.right (by assumption)))))))))) | exact tbn_neAll (And.right (And.right (And.right (And.right (And.right (And.right (And.right (And.right (And.right (And.right (by assumption))))))))))))
  k_with "call builtin:list.append" => (k_here; (with_reducible show wpAny _ _ (call (Value.builtin _) [Value.ref _, _]) _ _ _); k_dflt (refine' append_K (by k_asm) (by k_asm) (by k_upd) ?_ (by first | assumption | size_fits); k_whole); intro _ _ _; (try k_sweep))
  k_with "brkQ" => (dsimp only [brkQ])
  k_with "BrkEnd" => (refine Hold.mk ?_)
  k_with "call builtin:len" => (k_here; (with_reducible show wpAny _ _ (call (Value.builtin "len") [Value.str _ _]) _ _ _); refine len_str (by omega) ?_)
  k_with "call builtin:len" => (k_here; (with_reducible show wpAny _ _ (call (Value.builtin "len") [Value.ref _]) _ _ _); refine PyProof.Rows.len_list (News.isList (by k_asm) (by k_mem)) (by rw [List.size_toArray]; first | omega | (simp only [List.length_cons]; omega)) ?_; rw [List.size_toArray])
  k_with "call builtin:len" => (k_here; (with_reducible show wpAny _ _ (call (Value.builtin "len") [Value.ref _]) _ _ _); refine PyProof.Rows.len_tuple (News.isTup (by k_asm) (by k_mem)) (by rw [List.size_toArray]; omega) ?_; rw [List.size_toArray])
  k_with "kmem" => (with_reducible first | assumption | exact List.mem_cons_self | (refine List.mem_cons_of_mem _ ?_; k_mem) | (refine List.mem_append_left _ ?_; k_mem))
  k_with "CompSrc" => (refine Hold.mk ?_)
  k_with "eval ListComp" => (k_here; k_dflt (refine ListComp_S (_F₀ := by k_asm) (by with_unfolding_all rfl) (by decide) (by rfl) (by decide) (by rfl) ?_))
  k_with "SrcS" => (refine Hold.mk ?_)
  k_with "CompEnd" => (refine Hold.mk ?_)
  k_with "binaryOp Add str str" => (refine PyProof.Rows.add_str (fun t' tk' => ?_) (by rw [sizeLine_eq]; (try rw [Str.length_append]); omega); (try dsimp only))
  k_with "om" => with_reducible first | exact Mine.om283 (by assumption) (by assumption) (by assumption) | exact Mine.om358 (by assumption) (by assumption) | exact Mine.om64 (by assumption) | exact Mine.om487 (by assumption) | fail
  revert X; k_fill; intro X
  have hroom0 : dp < recursionLimit := by omega
  k_dflt (k_extra "enter")
  k_steps
  unfold Hold
  rename_i gG LL _ FGG _ _ BB XX TT _ _ _ _
  rename Fr gG LL _ _ => F5
  rename News gG LL _ _ => N5
  refine ⟨wd, u1, news, rfl, rfl, F5, N5, hasc, by rw [sizeLine_eq]; omega, fun g9 => ?_⟩
  refine compInd (fun i ys nx => nx = news ∧ StrsAre ys ((wd.cps.toList.take i).map escF)) ⟨rfl, .nil⟩ ?_ ?_
  · rintro i ys news₁ v I oI C oC D m₂ h tk E' hi hp25 hp26 hC hx F6 N6 off ne
    try (refine letQS ?_; intro Q27 s27)
    obtain ⟨rfl, hS⟩ := hp25
    refine exE2 hp26 ?_; intro c u hq19
    obtain ⟨hc, hr19⟩ := hq19
    clear hp26
    subst hr19
    clear F5 N5
    have off2 := off
    k_steps
    all_goals unfold Hold
    all_goals rename Fr gG LL _ _ => F7
    all_goals rename News gG LL _ _ => N7
    all_goals rename List.isEmpty _ = _ => hw
    all_goals refine CompEnd.intro F7 N7 _ (fun p hp => hp) off trivial ⟨rfl, ?_⟩
    all_goals rw [take_next hc, List.map_append]
    all_goals refine StrsAre.append' hS ?_
    all_goals show StrsAre [_] [escF c]
    all_goals unfold escF
    all_goals rw [hw]
    all_goals exact .cons _ _ .nil
  · rintro ys news₁ hp28
    try (refine letQS ?_; intro Q29 s29)
    obtain ⟨rfl, hS⟩ := hp28
    clear F5 N5
    have hln : wd.cps.toList.length = wd.cps.size := rfl
    have hsum : ((wd.cps.toList.map escF).map (fun x : Str => x.length)).sum + (wd.cps.toList.map escF).length ≤ 1048576 := by
      have := esc_sum wd.cps.toList
      rw [List.length_map]
      show ((wd.cps.toList.map escF).map Str.length).sum + _ ≤ _
      omega
    have hn2 : (Str.ofString "\n\n").length = 2 := rfl
    rw [← hln, List.take_length] at hS
    k_steps
    refine join_listW (News.isList (by k_asm) (by k_mem)) hS (by decide +kernel) hsum ?_
    intro t5 k5
    k_steps
    rename Fr h₀ L _ _ => F9
    rename News h₀ L _ _ => N9
    exact ret _ _ _ F9 (fun p hp => N9 p (by first | exact hp | exact .tail _ hp))
end
end Mine
end
-- F15
section
theorem Mine.resetF15 : True := by (w_top off; trivial)
open PySem PySem.W PyProof.Rows PyProof.Rows.LCg
set_option Elab.async false
set_option maxRecDepth 100000
set_option maxHeartbeats 8000000
namespace Mine
noncomputable def testsOf (ifs : List Expr) (env : Env) : Sem Bool := forIn ifs true fun c ok => if ok = true then do
    let ok ← isTrue c env (eval c env)
    pure (ForInStep.yield ok)
  else pure (ForInStep.yield ok)
section
variable {prog : Program} {w : World} {A : Around} {E : Value → Shared → Prop} {s : Shared} {env : Env} {R : Result → Shared → Prop}
/-- the last clause of a comprehension: any target, any tests -/
theorem comp_last {elt : Expr} {gens : List Comprehension} {scope : Scope} {pos : Pos} {d : Nat} {it acc : Value} {target iter : Expr} {ifs : List Expr} (hg : gens[d]? = some ⟨target, iter, ifs, 0⟩) (hg' : gens[d + 1]? = none) (I : Nat → Shared → Prop)
    (turn : ∀ n s, I n s → wpAny (model prog w) A (pyNext it) (fun r s₁ => match r with
      | none => R (.ok .next) s₁
      | some v => wpAny (model prog w) A (letOwnedTupleGo target it v) (fun _ s₂ => wpAny (model prog w) A (assign target env v) (fun _ s₃ =>
          wpAny (model prog w) A (testsOf ifs env) (fun ok s₄ => if ok = true then
            wpAny (model prog w) A (eval elt env) (fun x s₅ => wpAny (model prog w) A (call (.builtin "list.append") [acc, x]) (fun _ s₆ => ∃ m, m < n ∧ I m s₆) (notedBy (model prog w) A env fun e s' => R (.error e) s') s₅) (notedBy (model prog w) A env fun e s' => R (.error e) s') s₄
            else ∃ m, m < n ∧ I m s₄) (notedBy (model prog w) A env fun e s' => R (.error e) s') s₃) (notedBy (model prog w) A env fun e s' => R (.error e) s') s₂)
          (notedBy (model prog w) A env fun e s' => R (.error e) s') s₁) (notedBy (model prog w) A env fun e s' => R (.error e) s') s)
    (n : Nat) (h : I n s) : codeAny (model prog w) A (.compLoop (.ListComp elt gens scope pos) d it acc env) R s := by
  refine codeAny_loop rfl I (fun n s hI => ?_) n h
  show wpAny _ A ((compTurn (.ListComp elt gens scope pos) d it acc env).onRaise (fun x => do noteFrame x env; theTreesLotGoes x)) _ _ s
  refine wpAny_noted ?_
  unfold compTurn
  simp only [hg, hg']
  refine wpAny_bind (wpAny_standAt (wpAny_bind (wpAny_mono (turn n s hI) (fun r s₁ h₁ => ?_) fun _ _ h' => h')))
  cases r with
  | none => exact wpAny_pure h₁
  | some v =>
    refine wpAny_bind (wpAny_mono h₁ (fun _ s₁' h₁' => ?_) fun _ _ h' => h')
    refine wpAny_bind (wpAny_mono h₁' (fun _ s₂ h₂ => ?_) fun _ _ h' => h')
    refine wpAny_bind (wpAny_mono h₂ (fun ok s₃ h₃ => ?_) fun _ _ h' => h')
    cases ok with
    | false =>
      simp only [Bool.false_eq_true, if_false] at h₃ ⊢
      exact wpAny_pure ⟨rfl, h₃⟩
    | true =>
      simp only [if_true] at h₃ ⊢
      exact wpAny_bind (wpAny_bind (wpAny_mono h₃ (fun x s₄ h₄ => wpAny_bind (wpAny_mono h₄ (fun _ s₅ h₅ => wpAny_pure (wpAny_pure ⟨rfl, h₅⟩)) fun _ _ h' => h')) fun _ _ h' => h'))
/-- a clause that another follows: the next one's loop is run inside -/
theorem comp_more {elt : Expr} {gens : List Comprehension} {scope : Scope} {pos : Pos} {d : Nat} {it acc : Value} {target iter target' iter' : Expr} {ifs ifs' : List Expr} (hg : gens[d]? = some ⟨target, iter, ifs, 0⟩) (hg' : gens[d + 1]? = some ⟨target', iter', ifs', 0⟩) (hs : ∀ x, foldedSetIterable iter' env x = pure x) (I : Nat → Shared → Prop)
    (turn : ∀ n s, I n s → wpAny (model prog w) A (pyNext it) (fun r s₁ => match r with
      | none => R (.ok .next) s₁
      | some v => wpAny (model prog w) A (letOwnedTupleGo target it v) (fun _ s₂ => wpAny (model prog w) A (assign target env v) (fun _ s₃ =>
          wpAny (model prog w) A (testsOf ifs env) (fun ok s₄ => if ok = true then
            wpAny (model prog w) A (eval iter' env) (fun x s₅ => wpAny (model prog w) A (pyIter x) (fun it' s₆ => codeAny (model prog w) A (.compStart (.ListComp elt gens scope pos) (d + 1) it' acc env) (fun r s₇ => match r with | .ok _ => ∃ m, m < n ∧ I m s₇ | .error e => cameBackBy (model prog w) A env (notedBy (model prog w) A env fun e s' => R (.error e) s') e s₇) s₆)
              (notedBy (model prog w) A env fun e s' => R (.error e) s') s₅) (notedBy (model prog w) A env fun e s' => R (.error e) s') s₄
            else ∃ m, m < n ∧ I m s₄) (notedBy (model prog w) A env fun e s' => R (.error e) s') s₃) (notedBy (model prog w) A env fun e s' => R (.error e) s') s₂)
          (notedBy (model prog w) A env fun e s' => R (.error e) s') s₁) (notedBy (model prog w) A env fun e s' => R (.error e) s') s)
    (n : Nat) (h : I n s) : codeAny (model prog w) A (.compLoop (.ListComp elt gens scope pos) d it acc env) R s := by
  refine codeAny_loop rfl I (fun n s hI => ?_) n h
  show wpAny _ A ((compTurn (.ListComp elt gens scope pos) d it acc env).onRaise (fun x => do noteFrame x env; theTreesLotGoes x)) _ _ s
  refine wpAny_noted ?_
  unfold compTurn
  simp only [hg, hg']
  refine wpAny_bind (wpAny_standAt (wpAny_bind (wpAny_mono (turn n s hI) (fun r s₁ h₁ => ?_) fun _ _ h' => h')))
  cases r with
  | none => exact wpAny_pure h₁
  | some v =>
    refine wpAny_bind (wpAny_mono h₁ (fun _ s₁' h₁' => ?_) fun _ _ h' => h')
    refine wpAny_bind (wpAny_mono h₁' (fun _ s₂ h₂ => ?_) fun _ _ h' => h')
    refine wpAny_bind (wpAny_mono h₂ (fun ok s₃ h₃ => ?_) fun _ _ h' => h')
    cases ok with
    | false =>
      simp only [Bool.false_eq_true, if_false] at h₃ ⊢
      exact wpAny_pure ⟨rfl, h₃⟩
    | true =>
      simp only [if_true] at h₃ ⊢
      refine wpAny_bind (wpAny_mono h₃ (fun x s₄ h₄ => wpAny_bind (wpAny_standAt ?_)) fun _ _ h' => h')
      refine wpAny_bind (wpAny_of_eq (hs x) ?_)
      refine wpAny_bind (wpAny_holding (wpAny_mono h₄ (fun it' s₅ h₅ => ?_) fun _ _ h' => h'))
      refine wpAny_bind (wpAny_runOwn (codeAny_mono h₅ fun r s₆ h₆ => ?_))
      cases r with
      | ok f => exact wpAny_pure ⟨rfl, h₆⟩
      | error e => exact h₆
theorem comp_start {elt : Expr} {gens : List Comprehension} {scope : Scope} {pos : Pos} {d : Nat} {it acc : Value} {target iter : Expr} {ifs : List Expr} (hg : gens[d]? = some ⟨target, iter, ifs, 0⟩)
    (h0 : codeAny (model prog w) A (.compLoop (.ListComp elt gens scope pos) d it acc env) R s)
    (h : wpAny (model prog w) A (pyIter it) (fun it' s' => codeAny (model prog w) A (.compLoop (.ListComp elt gens scope pos) d it' acc env) R s') (notedBy (model prog w) A env fun x s' => R (.error x) s') s) :
    codeAny (model prog w) A (.compStart (.ListComp elt gens scope pos) d it acc env) R s := by
  refine codeAny_of_tree ?_
  show wpAny _ _ ((compStart (.ListComp elt gens scope pos) d it acc env).onRaise (fun x => do noteFrame x env; standAt theWindowsPlace)) _ _ s
  refine wpAny_notedAt ?_
  unfold compStart
  simp only [clausesOf, hg]
  show wpAny _ _ (ask >>= _) _ _ s
  refine wpAny_bind (wpAny_askSetting (wpAny_ite ?_))
  split
  · first
      | exact wpAny_bind (wpAny_pure (wpAny_pure (And.intro rfl h0)))
      | exact wpAny_pure (And.intro rfl h0)
  · refine wpAny_bind (wpAny_rule ?_)
    exact wpAny_bind (wpAny_standAt (wpAny_bind (wpAny_mono h (fun it' s' h' => wpAny_pure (And.intro rfl h')) fun _ _ x => x)))
end
end Mine
end
-- F16
section
theorem Mine.resetF16 : True := by (w_top off; trivial)
open PySem PySem.W PyProof.Rows PyProof.Rows.LCg
set_option Elab.async false
set_option maxRecDepth 100000
set_option maxHeartbeats 8000000
namespace Mine
section
variable {prog : Program} {w : World} {A : Around} {E : Value → Shared → Prop} {s : Shared} {env : Env} {h₀ : Heap} {L : Addr} {m : Str → Option Value}
/-- where a comprehension's run ends: its list D and its namespace C stand in the ledger -/
noncomputable def CompDone (h₀ : Heap) (L : Addr) (m : Str → Option Value) (Q : Value → Shared → Prop) (C D : Addr) (s₂ : Shared) (r : Result) (s' : Shared) : Prop := match r with
  | .ok _ => ∃ h' tk oC m' ys news', s' = { s₂ with heap := h', toks := tk } ∧ Fr h₀ L h' m ∧ NsObj oC m' ∧ News h₀ L h' ((C, oC) :: (D, lst ys) :: news') ∧ (∀ p ∈ news', p.1 ≠ C) ∧
      ∀ h'', Fr h₀ L h'' m → News h₀ L h'' ((D, lst ys) :: news') → Q (.ref D) { s₂ with heap := h'', toks := tk }
  | .error _ => False
theorem ListComp_G {elt target iter : Expr} {ifs : List Expr} {rest : List Comprehension} {scope : Scope} {cl : List (Str × Addr)} {pos : Pos} {Q : Value → Shared → Prop} (_F₀ : Fr h₀ L s.heap m)
    (hclos : closureFor scope env = pure cl) (hcell : ∀ y ∈ scope.names, y.2 ≠ .cell) (hkind : scope.kind = .function)
    (hnames : ∀ y ∈ scope.names, y.2 = .local → scope.names.lookup y.1 = some .local)
    (h : wpAny (model prog w) A (eval iter env) (fun xv s₁ => wpAny (model prog w) A (pyIter xv) (fun itv s₂ => ∃ news, Fr h₀ L s₂.heap m ∧ News h₀ L s₂.heap news ∧ ∀ D C oC h₁, NsObj oC (fun _ => none) → Fr h₀ L h₁ m → News h₀ L h₁ ((C, oC) :: (D, lst []) :: news) → (∀ p ∈ news, p.1 < D) → @LT.lt Nat _ D C →
      codeAny (model prog w) A (.compStart (.ListComp elt (⟨target, iter, ifs, 0⟩ :: rest) scope pos) 0 itv (.ref D) (compEnvC scope cl C env)) (CompDone h₀ L m Q C D s₂) { s₂ with heap := h₁ }) E s₁) E s)
    (hs : ∀ x, foldedSetIterable iter env x = pure x := by intro _; rfl) :
    wpAny (model prog w) A (eval (.ListComp elt (⟨target, iter, ifs, 0⟩ :: rest) scope pos) env) Q E s := by
  k_with_none
  k_with "om" => with_reducible first | exact Mine.om36 | fail
  rw [show eval (.ListComp elt (⟨target, iter, ifs, 0⟩ :: rest) scope pos) env = _ from eval_ListComp ..]
  refine wpAny_comprehension_free (use := none) rfl hs hclos hkind hnames (wpAny_mono h (fun xv s₁ h₁ => wpAny_mono h₁ (fun itv s₂ h₂ => ?_) fun _ _ e => e) fun _ _ e => e)
  obtain ⟨news, hq20⟩ := h₂
  refine anE3 hq20 ?_; clear hq20; intro F N K
  refine wpAny_newObj_type (wpAny_newFunctionEnv hcell (by intro y hy; simp at hy) (fun h₁ hns₁ hsb₁ => ?_) hkind)
  dsimp only at hns₁ hsb₁ ⊢
  generalize hH2 : s₂.heap.push { cls := .type "list", dict := none, data := .seq ([] : List Value).toArray } = H2 at hns₁ hsb₁ ⊢
  have hC : H2.objs.size = s₂.heap.objs.size + 1 := by rw [← hH2, Heap.size_push]
  have F2 : Fr h₀ L H2 m := hH2 ▸ F.push _
  have N2 : News h₀ L H2 ((s₂.heap.objs.size, lst []) :: news) := hH2 ▸ N.push F _
  have old : ∀ b o, H2.get? b = some o → h₁.get? b = some o := fun b o e => hsb₁.extBut b o (Nat.ne_of_lt (Heap.lt_size e)) (Heap.get?_push_of_some _ e)
  obtain ⟨oC, heC, hoC⟩ := ns_obj hns₁
  have N3 : News h₀ L h₁ ((H2.objs.size, oC) :: (s₂.heap.objs.size, lst []) :: news) := fun p hp => by
    rcases List.mem_cons.mp hp with rfl | hp
    · exact ⟨heC, Nat.ne_of_gt F2.ns.lt, next_is_new F2⟩
    · exact ⟨old _ _ (N2 p hp).1, (N2 p hp).2⟩
  have hk := K s₂.heap.objs.size H2.objs.size oC h₁ (by simpa using hoC) (F2.keeps old) N3 (fun p hp => Heap.lt_size (N p hp).1) (by rw [hC]; exact Nat.lt_succ_self _)
  refine codeAny_mono hk fun r s' hr => ?_
  cases r with
  | error e => exact hr.elim
  | ok f =>
    refine exE6 hr ?_; intro h' tk oC' m' ys news' hq22
    refine anE6 hq22 ?_; clear hq22; intro hr22 F' hm' N' hne hq
    clear hr
    subst hr22
    have zC := (N' _ (.head _))
    refine ⟨m', hm'.ns zC.1, fun h'' hs'' => hq h'' (F'.change hs'' zC.2.1 zC.2.2) fun p hp => ?_⟩
    refine ⟨hs''.extBut _ _ ?_ (N' p (.tail _ hp)).1, (N' p (.tail _ hp)).2⟩
    rcases List.mem_cons.mp hp with rfl | hp
    · exact Nat.ne_of_lt (by rw [hC]; exact Nat.lt_succ_self _)
    · exact hne p hp
end
end Mine
end
-- F17
section
theorem Mine.resetF17 : True := by (w_top off; trivial)
open PySem PySem.W PyProof.Rows PyProof.Rows.LCg
set_option Elab.async false
set_option maxRecDepth 100000
set_option maxHeartbeats 8000000
namespace Mine
section
variable {prog : Program} {w : World} {A : Around} {E : Value → Shared → Prop} {s : Shared} {env : Env} {h₀ : Heap} {L : Addr} {m : Str → Option Value}
theorem asgC {scope : Scope} {cl : List (Str × Addr)} {C : Addr} {oC : Obj} {m₂ : Str → Option Value} {x : Str} {px : Pos} {v : Value} {rest : List (Addr × Obj)} {Q : Unit → Shared → Prop} (hkind : scope.kind = .function) (hx : scope.names.lookup x = some .local)
    (F : Fr h₀ L s.heap m) (N : News h₀ L s.heap ((C, oC) :: rest)) (hC : NsObj oC m₂) (hne : ∀ p ∈ rest, p.1 ≠ C)
    (h : ∀ oC' h' tk', NsObj oC' (fun z => if z = x then some v else m₂ z) → Fr h₀ L h' m → News h₀ L h' ((C, oC') :: rest) → Q () { s with heap := h', toks := tk' }) :
    wpAny (model prog w) A (assign (.Name x px) (compEnvC scope cl C env) v) Q E s := by
  have zC := N _ (.head _)
  refine wpAny_assign_Name (wpAny_storeName_local (lookup_relabel_local hx) (hC.ns zC.1) (fun h₃ hn₃ hs₃ => ?_) (by simp [compEnvC, relabel, hkind]))
  obtain ⟨oC', heC, hoC⟩ := ns_obj hn₃
  refine h oC' h₃ _ hoC (F.change hs₃ zC.2.1 zC.2.2) fun p hp => ?_
  rcases List.mem_cons.mp hp with rfl | hp
  · exact ⟨heC, zC.2⟩
  · exact ⟨hs₃.extBut _ _ (hne p hp) (N p (.tail _ hp)).1, (N p (.tail _ hp)).2⟩
end
end Mine
end
-- G01
section
theorem Mine.resetG01 : True := by (w_top off; trivial)
open PySem PySem.W PySem.W.X PyProof.Rows
set_option Elab.async false
set_option maxRecDepth 100000
set_option maxHeartbeats 8000000
namespace Mine
section
variable {prog : Program} {w : World} {A : Around} {c : Code} {fs : List Frame} {P : End → Shared → Prop} {s : Shared} {env : Env}
  {K : Flow → Sem Fin} {H : Value → Sem Fin} {gd : Bool → Bool} {lv : List Value → List Value}
theorem sx_wrap {α : Type} {m : Sem α} {K : α → Sem Fin} {H : Value → Sem Fin} {gd : Bool → Bool} {lv : List Value → List Value}
    (h : wpAny (model prog w) (A.over c fs) m (fun a s' => SegX (model prog w) A c (K a) fs s' P) (fun x s' => SegX (model prog w) A c (H x) fs s' P) s) :
    SegX (model prog w) A c (m.wrap K H gd lv) fs s P := by
  rintro Γ p rfl hΓ
  obtain ⟨e, s', hr, hq⟩ := runs_wrap_of_wp (Φ := fun e s' => e.quiet = true ∧ P e s') K H gd lv m (h (Γ.over fs) p (hΓ.over fs)) (fun a p' s' h' => h' Γ p' rfl hΓ) (fun x p' s' h' => h' Γ p' rfl hΓ)
  exact ⟨e, s', hr, hq⟩
theorem sx_bind_wrap {α β : Type} {m : Sem α} {K : α → Sem β} {K' : β → Sem Fin} {H' : Value → Sem Fin} {gd : Bool → Bool} {lv : List Value → List Value}
    (h : wpAny (model prog w) (A.over c fs) m (fun a s' => SegX (model prog w) A c ((K a).wrap K' H' gd lv) fs s' P) (fun x s' => SegX (model prog w) A c (H' x) fs s' P) s) :
    SegX (model prog w) A c ((m >>= K).wrap K' H' gd lv) fs s P := by
  rw [Sem.bind_eq_wrap', Sem.wrap_wrap]; exact sx_wrap h
theorem sx_at {p' : Pos} {k : Unit → Sem Fin} (h : SegX (model prog w) A c (k ()) fs s P) : SegX (model prog w) A c (.at p' k) fs s P :=
  sx_wrap (m := standAt p') (K := k) (H := .raise) (gd := id) (lv := id) (wpAny_standAt h)
theorem sx_point {l : List Value} {k : Unit → Sem Fin} (h : SegX (model prog w) A c (k ()) fs s P) : SegX (model prog w) A c (.point l k) fs s P :=
  sx_wrap (m := point) (K := k) (H := .raise) (gd := id) (lv := fun _ => l) (wpAny_point h)
theorem sx_nil (h : SegX (model prog w) A c (K .next) fs s P) : SegX (model prog w) A c ((execs [] env).wrap K H gd lv) fs s P := h
theorem sx_cons {st : Stmt} {rest : List Stmt}
    (h : SegX (model prog w) A c ((exec st env).wrap (fun f => match f with | .next => (execs rest env).wrap K H gd lv | f => K f) H gd lv) fs s P) :
    SegX (model prog w) A c ((execs (st :: rest) env).wrap K H gd lv) fs s P := by rw [execs_cons_wrap]; exact h
theorem sx_stmt {st : Stmt} (h : wpAny (model prog w) (A.over c fs) (exec st env) (fun f s' => SegX (model prog w) A c (K f) fs s' P) (fun x s' => SegX (model prog w) A c (H x) fs s' P) s) :
    SegX (model prog w) A c ((exec st env).wrap K H gd lv) fs s P := sx_wrap h
theorem sx_If {test : Expr} {body orelse : List Stmt} {pos : Pos}
    (h : wpAny (model prog w) (A.over c fs) (isTrue test env (eval test env)) (fun b s' => if b = true then SegX (model prog w) A c ((execs body env).wrap K H gd lv) fs s' P else SegX (model prog w) A c ((execs orelse env).wrap K H gd lv) fs s' P)
      (fun x s' => SegX (model prog w) A c (H x) fs s' P) s) :
    SegX (model prog w) A c ((exec (.If test body orelse pos) env).wrap K H gd lv) fs s P := by
  show SegX _ A c ((do standAt pos; if ← isTrue test env (eval test env) then execs body env else execs orelse env : Sem Flow).wrap K H gd lv) fs s P
  refine sx_bind_wrap (wpAny_standAt (sx_bind_wrap (wpAny_mono h (fun b s' hb => ?_) fun _ _ x => x)))
  cases b with
  | true => rw [if_pos rfl] at hb ⊢; exact hb
  | false => rw [if_neg Bool.false_ne_true] at hb ⊢; exact hb
theorem sx_yield {v : Value} {g : Bool} {l : List Value} {k : Resume → Sem Fin} (hfs : splitAtGen fs = none) (hg : g = false) (hfg : fs.any Frame.guarded = false) (x : ∀ p, P (.susp v g l k c p fs) s) : SegX (model prog w) A c (.yield v g l k) fs s P := by
  rintro Γ p rfl _
  exact ⟨_, s, Runs.yield' fs hfs, by simp [End.quiet, hg, hfg], x p⟩
theorem sx_Yield {e : Expr} {ypos pos : Pos} (hfs : splitAtGen fs = none) (hgd : gd false = false) (hfg : fs.any Frame.guarded = false)
    (h : wpAny (model prog w) (A.over c fs) (eval e env) (fun v s' => ∀ g l (k : Resume → Sem Fin) p, (∀ s'' P', SegX (model prog w) A c (K .next) fs s'' P' → SegX (model prog w) A c (k (.send .none)) fs s'' P') → P (.susp v g l k c p fs) s')
      (fun x s' => SegX (model prog w) A c (H x) fs s' P) s) (hco : env.scope.isCoroutine = false := by rfl) (hi : interactive env = false := by rfl) :
    SegX (model prog w) A c ((exec (.Expr (.Yield (some e) ypos) pos) env).wrap K H gd lv) fs s P := by
  rw [exec_Expr env _ pos hi rfl]
  show SegX (model prog w) A c (.at pos fun _ => ((eval e env >>= fun v => (standAt ypos >>= fun _ => yieldOut env v)) >>= fun x =>
    dropValue (.Yield (some e) ypos) pos x).wrap K H gd lv) fs s P
  have hy : ∀ v, yieldOut env v = yieldValue v := fun v => by simp only [yieldOut, hco, Bool.false_eq_true, if_false]
  simp only [hy]
  refine sx_at ?_
  rw [Sem.bind_eq_wrap', Sem.bind_eq_wrap', Sem.wrap_wrap, Sem.wrap_wrap]
  refine sx_wrap (wpAny_mono h (fun v s' h' => ?_) fun _ _ x => x)
  refine sx_at (sx_yield hfs hgd hfg fun p => ?_)
  exact h' _ _ _ p fun s'' P' hx => hx
theorem sx_call {c' : Code} {h g l} {k : Result → Sem Fin} (x : ∀ p, SegX (model prog w) A c' ((model prog w).den c') (.ret k h g l c p [] :: fs) s P) : SegX (model prog w) A c (.call c' h g l k) fs s P := by
  rintro Γ p rfl hΓ
  obtain ⟨e, s', hr, hq⟩ := x p (Γ.goto c') p rfl (hΓ.goto c')
  exact ⟨e, s', runs_call_seg hr, hq⟩
theorem sx_again {c' : Code} (hq : c'.quiet = true) (x : SegX (model prog w) A c' ((model prog w).den c') fs s P) : SegX (model prog w) A c (.pure (.again c')) fs s P := by
  rintro Γ p rfl hΓ
  obtain ⟨e, s', hr, hq'⟩ := x (Γ.goto c') p rfl (hΓ.goto c')
  exact ⟨e, s', Runs.head (c₁ := c') (fun _ _ y => .again hq y) hr, hq'⟩
theorem sx_leaf {k h g l c₁ p₁ kp} (r : Result) (x : SegX (model prog w) A c₁ (k r) fs s P) : SegX (model prog w) A c (leafOf r) (.ret k h g l c₁ p₁ kp :: fs) s P :=
  s_pop prog w A c fs P s r _ rfl k h g l c₁ p₁ kp x
theorem sx_For {target iter : Expr} {body orelse : List Stmt} {pos : Pos}
    (h : wpAny (model prog w) (A.over c fs) (eval iter env) (fun x s₁ => wpAny (model prog w) (A.over c fs) (pyIter x) (fun it s₂ =>
      ∀ p, SegX (model prog w) A (.forLoop target it body orelse env) ((model prog w).den (.forLoop target it body orelse env))
        (.ret (fun r => ((match r with | .ok f => (.pure f : Sem Flow) | .error e => .raise e).onRaise fun (x : Value) => do
          if (← field x 1) == Value.none then unsupported "frame.own-activation:exception-without-traceback"
          setFlight x env.frame).wrap K H gd lv) none (gd false) (lv []) c p [] :: fs) s₂ P) (fun x s' => SegX (model prog w) A c (H x) fs s' P) s₁) (fun x s' => SegX (model prog w) A c (H x) fs s' P) s)
    (hs : ∀ x, foldedSetIterable iter env x = pure x := by intro _; rfl) :
    SegX (model prog w) A c ((exec (.For target iter body orelse pos) env).wrap K H gd lv) fs s P := by
  rw [exec_For]
  refine sx_bind_wrap (wpAny_standAt (sx_bind_wrap (wpAny_mono h (fun x s₁ h₁ => ?_) fun _ _ e => e)))
  refine sx_bind_wrap (wpAny_of_eq (hs x) (sx_bind_wrap (wpAny_standAt (sx_bind_wrap (wpAny_holding (wpAny_mono h₁ (fun it s₂ h₂ => ?_) fun _ _ e => e))))))
  exact sx_call h₂
theorem sx_While {test : Expr} {body orelse : List Stmt} {pos : Pos}
    (h : ∀ p, SegX (model prog w) A (.whileLoop test body orelse env) ((model prog w).den (.whileLoop test body orelse env))
      (.ret (fun r => ((match r with | .ok f => (.pure f : Sem Flow) | .error e => .raise e).onRaise fun (x : Value) => do
        if (← field x 1) == Value.none then unsupported "frame.own-activation:exception-without-traceback"
        setFlight x env.frame).wrap K H gd lv) none (gd false) (lv []) c p [] :: fs) s P) :
    SegX (model prog w) A c ((exec (.While test body orelse pos) env).wrap K H gd lv) fs s P :=
  sx_at (sx_call h)
theorem sx_end (r : Result) (x : P (.ret r) s) : SegX (model prog w) A c (leafOf r) [] s P := s_end prog w A c P s r _ rfl x
noncomputable abbrev loopH (env : Env) : Value → Sem Fin := fun e => (do noteFrame e env; theTreesLotGoes e : Sem Unit).wrap (fun _ => .raise e) .raise id id
theorem sx_whileLoop {test : Expr} {body orelse : List Stmt}
    (h : wpAny (model prog w) (A.over (.whileLoop test body orelse env) fs) (isTrue test env (eval test env)) (fun b s' =>
        if b = true then
          SegX (model prog w) A (.whileLoop test body orelse env) ((execs body env).wrap (fun f => match f with
            | .next | .cont => .pure (.again (.whileLoop test body orelse env))
            | .brk => .pure (.done .next)
            | .ret v => .pure (.done (.ret v))) (loopH env) id id) fs s' P
        else SegX (model prog w) A (.whileLoop test body orelse env) ((execs orelse env).wrap (fun f => .pure (.done f)) (loopH env) id id) fs s' P)
      (fun x s' => SegX (model prog w) A (.whileLoop test body orelse env) (loopH env x) fs s' P) s) :
    SegX (model prog w) A (.whileLoop test body orelse env) ((model prog w).den (.whileLoop test body orelse env)) fs s P := by
  show SegX _ A _ ((whileTurn test body orelse env).onRaise (fun x => do noteFrame x env; theTreesLotGoes x)) fs s P
  unfold whileTurn
  rw [Sem.onRaise_eq_wrap, Sem.bind_eq_wrap', Sem.wrap_wrap]
  refine sx_wrap (wpAny_mono h (fun b s' hb => ?_) fun x s' hx => ?_)
  · cases b with
    | true =>
      rw [if_pos rfl] at hb
      show SegX _ A _ (Sem.wrap _ _ _ _ (if true = true then _ else _)) fs s' P
      rw [if_pos rfl, Sem.bind_eq_wrap', Sem.wrap_wrap]
      rw [Sem.wrap_congr (execs body env) _ _ (K' := fun f => match f with
            | .next | .cont => .pure (.again (.whileLoop test body orelse env))
            | .brk => .pure (.done .next)
            | .ret v => .pure (.done (.ret v))) (H' := loopH env)
        (fun f => by cases f <;> rfl)
        (fun e => by first | exact Sem.bind_eq_wrap _ _ | (show (do noteFrame e env; theTreesLotGoes e : Sem Unit).bind (fun _ => .raise e) = _; rw [Sem.bind_eq_wrap]))]
      exact hb
    | false =>
      rw [if_neg Bool.false_ne_true] at hb
      show SegX _ A _ (Sem.wrap _ _ _ _ (if false = true then _ else _)) fs s' P
      rw [if_neg Bool.false_ne_true, Sem.bind_eq_wrap', Sem.wrap_wrap]
      rw [Sem.wrap_congr (execs orelse env) _ _ (K' := fun f => (.pure (.done f) : Sem Fin)) (H' := loopH env)
        (fun f => by rfl)
        (fun e => by first | exact Sem.bind_eq_wrap _ _ | (show (do noteFrame e env; theTreesLotGoes e : Sem Unit).bind (fun _ => .raise e) = _; rw [Sem.bind_eq_wrap]))]
      exact hb
  · first
      | (rw [loopH, ← Sem.bind_eq_wrap] at hx; exact hx)
      | (show SegX _ A _ ((do noteFrame x env; theTreesLotGoes x : Sem Unit).bind fun _ => .raise x) fs s' P; rw [Sem.bind_eq_wrap]; exact hx)
theorem sx_forLoop {target : Expr} {it : Value} {body orelse : List Stmt} (ht : ∀ v, letOwnedTupleGo target it v = pure ())
    (h : wpAny (model prog w) (A.over (.forLoop target it body orelse env) fs) (pyNext it) (fun r s' => match r with
        | none => SegX (model prog w) A (.forLoop target it body orelse env) (.pure (.again (.block orelse env))) fs s' P
        | some v => wpAny (model prog w) (A.over (.forLoop target it body orelse env) fs) (assign target env v) (fun _ s'' => SegX (model prog w) A (.forLoop target it body orelse env) ((execs body env).wrap (fun f => match f with
            | .next | .cont => .pure (.again (.forLoop target it body orelse env))
            | .brk => .pure (.done .next)
            | .ret v => .pure (.done (.ret v))) (loopH env) id id) fs s'' P) (fun _ _ => False) s') (fun _ _ => False) s) :
    SegX (model prog w) A (.forLoop target it body orelse env) ((model prog w).den (.forLoop target it body orelse env)) fs s P := by
  show SegX _ A _ ((forTurn target it body orelse env).onRaise (fun x => do noteFrame x env; theTreesLotGoes x)) fs s P
  unfold forTurn
  rw [Sem.onRaise_eq_wrap]
  refine sx_bind_wrap (wpAny_standAt ?_)
  refine sx_bind_wrap (wpAny_onRaise (wpAny_mono h (fun r s' hr => ?_) fun _ _ e => e.elim))
  cases r with
  | none => exact hr
  | some v =>
    refine sx_bind_wrap (wpAny_of_eq (ht v) ?_)
    refine sx_bind_wrap (wpAny_mono hr (fun _ s'' h'' => ?_) fun _ _ e => e.elim)
    rw [Sem.bind_eq_wrap', Sem.wrap_wrap]
    rw [Sem.wrap_congr (execs body env) _ _ (K' := fun f => match f with
            | .next | .cont => .pure (.again (.forLoop target it body orelse env))
            | .brk => .pure (.done .next)
            | .ret v => .pure (.done (.ret v))) (H' := loopH env)
        (fun f => by cases f <;> rfl)
        (fun e => by first | exact Sem.bind_eq_wrap _ _ | (show (do noteFrame e env; theTreesLotGoes e : Sem Unit).bind (fun _ => .raise e) = _; rw [Sem.bind_eq_wrap]))]
    exact h''
theorem sx_func {body : List Stmt}
    (h : SegX (model prog w) A (.func body env) ((execs body env).wrap (fun f => .pure (.done (.ret (match f with | .ret v => v | _ => .none))))
      (fun e => (leaving env e).wrap (fun _ => .raise e) .raise id id) id id) fs s P) :
    SegX (model prog w) A (.func body env) ((model prog w).den (.func body env)) fs s P := by
  show SegX _ A _ (.point [] fun _ => ((execs body env).onRaise (leaving env)) >>= _) fs s P
  refine sx_point ?_
  rw [Sem.onRaise_eq_wrap, Sem.bind_eq_wrap', Sem.wrap_wrap]
  rw [Sem.wrap_congr (execs body env) _ _ (K' := fun f => .pure (.done (.ret (match f with | .ret v => v | _ => .none))))
    (H' := fun e => (leaving env e).wrap (fun _ => .raise e) .raise id id) (fun f => by cases f <;> rfl)
    (fun e => by rw [Sem.bind_eq_wrap, Sem.wrap_wrap]; rfl)]
  exact h
theorem sx_block_nil {fs : List Frame} (h : SegX (model prog w) A (.block [] env) (.pure (.done .next)) fs s P) : SegX (model prog w) A (.block [] env) ((model prog w).den (.block [] env)) fs s P := h
theorem sx_quiet {c : Code} {t : Sem Fin} (x : SegX (model prog w) A c t fs s P) : SegX (model prog w) A c t fs s (fun e s' => e.quiet = true ∧ P e s') := fun Γ p hc hΓ => by
  obtain ⟨e, s', hr, hq, hp⟩ := x Γ p hc hΓ
  exact ⟨e, s', hr, hq, hq, hp⟩
end
section
variable {prog : Program} {w : World} {A : Around} {E : Value → Shared → Prop} {s : Shared}
/-- the code and the tree that a generator's state wakes to -/
noncomputable def WakesTo (gs : GenState) (c₀ : Code) (t₀ : Sem Fin) (fs₀ : List Frame) : Prop :=
  (gs = .fresh c₀ ∧ t₀ = denote table c₀ ∧ fs₀ = []) ∨ (∃ k₀ l₀ p₀ cl, gs = .suspended k₀ l₀ c₀ p₀ fs₀ cl ∧ t₀ = k₀ (.send .none))
theorem resumeX {α : Type} {Q : α → Shared → Prop} {g : Nat} {gs : GenState} {l : List Value} {k : GenResult → Sem α} {c₀ : Code} {t₀ : Sem Fin} {fs₀ : List Frame} (hg : s.gens[g]? = some gs)
    (hgs : WakesTo gs c₀ t₀ fs₀)
    (x : SegX (model prog w) A c₀ t₀ fs₀ (s.setGen g .running) (fun e s₁ => wpAny (model prog w) A (k e.result) Q E (s₁.setGen g e.genState))) : wpAny (model prog w) A (.resume g (.send .none) l k) Q E s := fun Γ p hΓ => by
  refine wake_any α prog w hg (?_ : (gs = .fresh c₀ ∧ (Resume.send Value.none) = .send .none ∧ t₀ = denote table c₀ ∧ fs₀ = []) ∨ (∃ k₀ l₀ p₀ cl, gs = .suspended k₀ l₀ c₀ p₀ fs₀ cl ∧ t₀ = k₀ (.send .none))) (fun Γ => Γ.In A) (fun _ h => h) (x.mono fun _ _ h Γ p hC => h Γ p hC) Γ p hΓ
  exact hgs.imp (fun h => ⟨h.1, rfl, h.2⟩) id
noncomputable def GenPostX (Q : Option Value → Shared → Prop) (g : Nat) (e : End) (s₁ : Shared) : Prop := match e with
  | .ret r => r = .ok (.ret .none) ∧ ∀ h', (∀ b o, s₁.heap.get? b = some o → h'.get? b = some o) → Q none { s₁.setGen g .finished with heap := h' }
  | .susp v gd l k c p fs => (End.susp v gd l k c p fs).genState.bare = true → Q (some v) (s₁.setGen g (End.susp v gd l k c p fs).genState)
theorem pyNext_genX {a : Addr} {g : Nat} {gs : GenState} {Q : Option Value → Shared → Prop} {c₀ : Code} {t₀ : Sem Fin} {fs₀ : List Frame} (hh : A.handled = none)
    (hl : s.heap.NoLimit) (hroom : A.depth < recursionLimit) (hg : s.heap.IsGen a g) (hgs : s.gens[g]? = some gs) (hwk : WakesTo gs c₀ t₀ fs₀)
    (x : SegX (model prog w) A.in1 c₀ t₀ fs₀ (s.setGen g .running) (GenPostX Q g)) : wpAny (model prog w) A (pyNext (.ref a)) Q E s := by
  k_with_none
  k_with "om" => with_reducible first | exact Mine.om36 | fail
  unfold pyNext
  refine wpAny_bind (wpAny_attempt (wpAny_callSpecial?_slot (name := Str.ofString "__next__") hg.typeIs slot_gen_next
    (wpAny_call_entry slot_gen_next hg.typeIs entry_gen_next ?_ (args_gen_next _))))
  show wpAny _ _ (Builtin.Generator.genWake (.ref a) (.send .none)) _ _ s
  unfold Builtin.Generator.genWake
  refine wpAny_bind (wpAny_holding (wpAny_genNumber hg (wpAny_bind (wpAny_genState hgs ?_))))
  have nr : gs.status = .fresh ∨ gs.status = .suspended := by
    rcases hwk with ⟨rfl, _⟩ | ⟨_, _, _, _, rfl, _⟩
    · exact .inl rfl
    · exact .inr rfl
  have key : ∀ {α : Type} {l : List Value} {k : GenResult → Sem α} {Q' : α → Shared → Prop} {E' : Value → Shared → Prop},
      (∀ e s₁, e.quiet = true → GenPostX Q g e s₁ → wpAny (model prog w) A.in1 (k e.result) Q' E' (s₁.setGen g e.genState)) → wpAny (model prog w) A.in1 (.resume g (.send .none) l k) Q' E' s :=
    fun hk => resumeX hgs hwk ((sx_quiet x).mono fun e s₁ h => hk e s₁ h.1 h.2)
  rcases nr with e | e <;> rw [e]
  all_goals
    refine wpAny_bind (wpAny_roomToWake hl hroom ?_)
    show wpAny _ A.in1 (.resume g (.send .none) [] _) _ _ s
    refine key fun e s₁ hq hp => ?_
    cases e with
    | ret r =>
      obtain ⟨rfl, hp⟩ := hp
      show wpAny _ A.in1 (newExc (.type "StopIteration") [] >>= _) _ _ _
      refine wpAny_bind ?_
      simp only [newExc, newTuple]
      refine wpAny_bind (wpAny_newObj_type ?_ (by size_fits))
      refine wpAny_bind (m := firstArgMember _ _) (wpAny_of_eq (a := Value.none) (by first | rfl | (simp only [firstArgMember]; rfl)) ?_)
      refine wpAny_newObj_type ?_ (by size_fits)
      simp only [raiseNew]
      refine wpAny_bind (wpAny_bind (wpAny_handled ?_))
      first | rw [show A.in1.handled = none from hh] | rw [hh]
      refine wpAny_throw ?_
      refine wpAny_bind (wpAny_isInstance (T := "StopIteration") (b := true) ⟨_, Heap.get?_push_size _ rfl, rfl⟩ isSubtype_stop ?_)
      exact wpAny_pure (hp _ fun b o hb => Heap.get?_push_of_some _ (Heap.get?_push_of_some _ hb))
    | susp v gd l k c p fs => exact wpAny_pure ⟨v, rfl, wpAny_pure (hp (End.bare_of_quiet hq))⟩
end
section
end
end Mine
end
-- G02
section
theorem Mine.resetG02 : True := by (w_top off; trivial)
open PySem PySem.W PySem.W.X PyProof.Rows PyProof.Rows.LCg
set_option Elab.async false
set_option maxRecDepth 100000
set_option maxHeartbeats 8000000
namespace Mine
noncomputable def groupS : Nat → Option Int → List Int → List Int
  | 0, _, _ => []
  | _ + 1, _, [] => []
  | n + 1, last, x :: r => if x = 127 then [] else if x = 0 then List.replicate (n + 1) (last.getD 0) else x :: groupS n (some x) r
/-- a generator that is ready to be asked n times: what it will tell is xs; C, its names; itl, what it reads from -/
noncomputable def GReady (prog : Program) (w : World) (A : Around) (h₀ : Heap) (C lr : Addr) (olr : Obj) : Nat → Obj → List (Addr × Obj) → GenState → List Int → Prop
  | 0, _, _, _, _ => True
  | n + 1, oC, itl, gs, xs => ∃ c₀ t₀ fs₀, WakesTo gs c₀ t₀ fs₀ ∧ ∀ (s : Shared) (rest : List (Addr × Obj)), s.heap.get? C = some oC → (∀ b o, h₀.get? b = some o → s.heap.get? b = some o) → News h₀ C s.heap (itl ++ rest) → (lr, olr) ∈ rest →
      (∀ p ∈ rest, ∀ q ∈ itl, p.1 ≠ q.1) → SegX (model prog w) A c₀ t₀ fs₀ s (fun e s₁ => ∃ h' tk, s₁ = { s with heap := h', toks := tk } ∧ (∀ b o, h₀.get? b = some o → h'.get? b = some o) ∧ News h₀ C h' rest ∧
        match e with
        | .ret r => r = .ok (.ret .none) ∧ xs = []
        | .susp v g l k c p fs => ∃ x t xs' oC' itl', xs = x :: xs' ∧ v = .int x t ∧ h'.get? C = some oC' ∧ News h₀ C h' (itl' ++ rest) ∧ (∀ p ∈ rest, ∀ q ∈ itl', p.1 ≠ q.1) ∧
            GReady prog w A h₀ C lr olr n oC' itl' (.suspended k l c p fs (g || fs.any Frame.guarded)) xs')
noncomputable def GPost (prog : Program) (w : World) (A : Around) (h₀ : Heap) (C lr : Addr) (olr : Obj) (n : Nat) (rest : List (Addr × Obj)) (s : Shared) (xs : List Int) : End → Shared → Prop := fun e s₁ => ∃ h' tk, s₁ = { s with heap := h', toks := tk } ∧ (∀ b o, h₀.get? b = some o → h'.get? b = some o) ∧ News h₀ C h' rest ∧
        match e with
        | .ret r => r = .ok (.ret .none) ∧ xs = []
        | .susp v g l k c p fs => ∃ x t xs' oC' itl', xs = x :: xs' ∧ v = .int x t ∧ h'.get? C = some oC' ∧ News h₀ C h' (itl' ++ rest) ∧ (∀ p ∈ rest, ∀ q ∈ itl', p.1 ≠ q.1) ∧
            GReady prog w A h₀ C lr olr n oC' itl' (.suspended k l c p fs (g || fs.any Frame.guarded)) xs'
section
variable {prog : Program} {w : World} {A : Around} {h₀ : Heap} {C lr : Addr} {olr : Obj}
theorem GReady.mk {n : Nat} {oC : Obj} {itl : List (Addr × Obj)} {gs : GenState} {xs : List Int} {c₀ : Code} {t₀ : Sem PySem.Fin} {fs₀ : List Frame} (hw : WakesTo gs c₀ t₀ fs₀)
    (h : ∀ (s : Shared) (rest : List (Addr × Obj)), s.heap.get? C = some oC → (∀ b o, h₀.get? b = some o → s.heap.get? b = some o) → News h₀ C s.heap (itl ++ rest) → (lr, olr) ∈ rest →
      (∀ p ∈ rest, ∀ q ∈ itl, p.1 ≠ q.1) → SegX (model prog w) A c₀ t₀ fs₀ s (GPost prog w A h₀ C lr olr n rest s xs)) : GReady prog w A h₀ C lr olr (n + 1) oC itl gs xs := ⟨c₀, t₀, fs₀, hw, h⟩
theorem GPost.susp {n : Nat} {rest itl : List (Addr × Obj)} {s : Shared} {xs xs' : List Int} {v : Value} {g : Bool} {l : List Value} {k : Resume → Sem PySem.Fin} {c : Code} {p : Pos} {fs : List Frame} {h' : Heap} {tk : Nat} {x : Int} {t : Tok} {oC : Obj}
    (hk : ∀ b o, h₀.get? b = some o → h'.get? b = some o) (hN : News h₀ C h' rest) (hv : v = .int x t) (hx : xs = x :: xs') (hC : h'.get? C = some oC) (N : News h₀ C h' (itl ++ rest)) (hoff : ∀ p ∈ rest, ∀ q ∈ itl, p.1 ≠ q.1)
    (hR : GReady prog w A h₀ C lr olr n oC itl (.suspended k l c p fs (g || fs.any Frame.guarded)) xs') : GPost prog w A h₀ C lr olr n rest s xs (.susp v g l k c p fs) { s with heap := h', toks := tk } :=
  ⟨h', tk, rfl, hk, hN, x, t, xs', oC, itl, hx, hv, hC, N, hoff, hR⟩
theorem GPost.ret {n : Nat} {rest : List (Addr × Obj)} {s : Shared} {xs : List Int} {h' : Heap} {tk : Nat} (hk : ∀ b o, h₀.get? b = some o → h'.get? b = some o) (hN : News h₀ C h' rest) (hx : xs = []) : GPost prog w A h₀ C lr olr n rest s xs (.ret (.ok (.ret .none))) { s with heap := h', toks := tk } :=
  ⟨h', tk, rfl, hk, hN, rfl, hx⟩
/-- while True: yield e, e always the same int -/
theorem while_ever {test e : Expr} {yp pe : Pos} {env : Env} {l : Int} {tl : Tok} {oC : Obj} {itl : List (Addr × Obj)} {fs : List Frame} (hfs : splitAtGen fs = none) (hfg : fs.any Frame.guarded = false)
    (htest : ∀ (A' : Around) (s : Shared) (Q : Bool → Shared → Prop) (E : Value → Shared → Prop), Q true s → wpAny (model prog w) A' (isTrue test env (eval test env)) Q E s)
    (he : ∀ (A' : Around) (s : Shared) (Q : Value → Shared → Prop) (E : Value → Shared → Prop), s.heap.get? C = some oC → Q (.int l tl) s → wpAny (model prog w) A' (eval e env) Q E s)
    (hco : env.scope.isCoroutine = false := by rfl) (hi : interactive env = false := by rfl) :
    ∀ (n : Nat) (s₀ : Shared) (h : Heap) (tk : Nat) (rest : List (Addr × Obj)), h.get? C = some oC → (∀ b o, h₀.get? b = some o → h.get? b = some o) → News h₀ C h (itl ++ rest) → (∀ p ∈ rest, ∀ q ∈ itl, p.1 ≠ q.1) →
      SegX (model prog w) A (.whileLoop test [.Expr (.Yield (some e) yp) pe] [] env) ((model prog w).den (.whileLoop test [.Expr (.Yield (some e) yp) pe] [] env)) fs { s₀ with heap := h, toks := tk } (GPost prog w A h₀ C lr olr n rest s₀ (List.replicate (n + 1) l)) := by
  intro n
  induction n with
  | zero =>
    intro s₀ h tk rest hC hk N hoff
    refine sx_whileLoop (htest _ _ _ _ ?_)
    simp only [if_true]
    refine sx_cons (sx_Yield hfs rfl hfg (he _ _ _ _ hC fun g l' k p _ => ?_) hco hi)
    exact GPost.susp hk (fun p hp => N p (List.mem_append_right _ hp)) rfl rfl hC N hoff trivial
  | succ n ih =>
    intro s₀ h tk rest hC hk N hoff
    refine sx_whileLoop (htest _ _ _ _ ?_)
    simp only [if_true]
    refine sx_cons (sx_Yield hfs rfl hfg (he _ _ _ _ hC fun g l' k p hres => ?_) hco hi)
    refine GPost.susp hk (fun p hp => N p (List.mem_append_right _ hp)) rfl rfl hC N hoff ?_
    refine GReady.mk (.inr ⟨_, _, _, _, rfl, rfl⟩) fun s rest hC hk N _ hoff => hres _ _ ?_
    exact sx_again rfl (ih s s.heap s.toks rest hC hk N hoff)
end
end Mine
end
-- G03
section
theorem Mine.resetG03 : True := by (w_top off; trivial)
open PySem PySem.W PySem.W.X PyProof.Rows PyProof.Rows.LCg
set_option Elab.async false
set_option maxRecDepth 100000
set_option maxHeartbeats 8000000
namespace Mine
noncomputable def LIter (o : Obj) (l : Addr) (i : Nat) : Prop := o.cls = .type "list_iterator" ∧ o.data = .fields #[.ref l, .int i 0]
noncomputable def lastVal : Option (Int × Tok) → Value
  | none => .none
  | some (l, t) => .int l t
theorem intsAt {vs : List Value} {ns : List Int} (h : IntsAre vs ns) {i : Nat} {x : Value} (e : vs[i]? = some x) : ∃ k t, x = .int k t ∧ ns[i]? = some k := by
  obtain ⟨hi, _⟩ := List.getElem?_eq_some_iff.mp e
  have hi' : i < ns.length := h.length ▸ hi
  obtain ⟨t, ht⟩ := h.get i ns[i] (List.getElem?_eq_getElem hi')
  rw [e] at ht
  exact ⟨_, t, Option.some.inj ht, List.getElem?_eq_getElem hi'⟩
theorem split_ret {k : Result → Sem PySem.Fin} {h : Option Value} {g : Bool} {l : List Value} {c : Code} {p : Pos} {kp} {fs : List Frame} (e : splitAtGen fs = none) : splitAtGen (.ret k h g l c p kp :: fs) = none := by
  rw [splitAtGen_ret, e]; rfl
theorem guard_ret {k : Result → Sem PySem.Fin} {h : Option Value} {g : Bool} {l : List Value} {c : Code} {p : Pos} {kp} {fs : List Frame} (e : fs.any Frame.guarded = false) (hg : g = false) : (Frame.ret k h g l c p kp :: fs).any Frame.guarded = false := by
  rw [List.any_cons, e, hg]; rfl
theorem ns_norm {o : Obj} {m : Str → Option Value} {x : Str} {v : Value} (h : NsObj o m) (e : m x = some v) : NsObj o (fun z => if z = x then some v else m z) := by
  have : (fun z => if z = x then some v else m z) = m := by
    funext z
    by_cases hz : z = x
    · rw [if_pos hz, hz, e]
    · rw [if_neg hz]
  rw [this]; exact h
noncomputable abbrev PR' : Program := PySem.Challenge.rw_rs0134_01.row.prog
noncomputable def GroupClaim (w : World) (h₀ : Heap) (C lr : Addr) (vs : List Value) (nr : Nat) (tg : Expr) (B : List Stmt) (qual : Str) (scope : Scope) (cdv : Value) : Prop :=
    ∀ (A : Around) (n i : Nat) (last : Option (Int × Tok)) (r : List Int) (ruler : List Int) (mR : Str → Option Value) (oC oit : Obj) (it : Addr) (fs : List Frame) (s₀ : Shared) (h : Heap) (tk : Nat) (rest : List (Addr × Obj)),
      splitAtGen fs = none → fs.any Frame.guarded = false → (∀ c : Code, (A.over c fs).handled = none) →
      (∀ f, f = Flow.next ∨ f = Flow.ret .none → ∀ c s P, P (.ret (.ok (.ret .none))) s → SegX (model PySem.Challenge.rw_rs0134_01.row.prog w) A c (leafOf (.ok f)) fs s P) →
      IntsAre vs ruler → ruler.drop i = r → (last = none → r.head? ≠ some 0) → NsObj oC (fun z => if z = Str.ofString "last_interval" then some (lastVal last) else mR z) → LIter oit lr i →
      h.get? C = some oC → (∀ b o, h₀.get? b = some o → h.get? b = some o) → News h₀ C h ((it, oit) :: rest) → (∀ p ∈ rest, p.1 ≠ it) → (lr, listOf vs.toArray nr) ∈ rest →
      SegX (model PySem.Challenge.rw_rs0134_01.row.prog w) A (.forLoop tg (.ref it) B [] (envOf qual scope C 35 cdv)) ((model PySem.Challenge.rw_rs0134_01.row.prog w).den (.forLoop tg (.ref it) B [] (envOf qual scope C 35 cdv))) fs { s₀ with heap := h, toks := tk }
        (GPost PySem.Challenge.rw_rs0134_01.row.prog w A h₀ C lr (listOf vs.toArray nr) n rest s₀ (groupS (n + 1) (last.map (·.1)) r))
/-- the claim of the loop that stands in this def -/
noncomputable def claimOf (w : World) (h₀ : Heap) (C lr : Addr) (vs : List Value) (nr : Nat) (o : Obj) : Prop := match o.data with
  | .func fd => (match fd.body with
    | .stmts [_, .For tg _ B _ _] => GroupClaim w h₀ C lr vs nr tg B fd.qualname fd.scope fd.code
    | _ => True)
  | _ => True
theorem claimOf.mk {w : World} {h₀ : Heap} {C lr : Addr} {vs : List Value} {nr : Nat} {oc od name qual params st₁ tg it₁ B pos scope dV kV doc pm an cdv ct osl} (h : GroupClaim w h₀ C lr vs nr tg B qual scope cdv) :
    claimOf w h₀ C lr vs nr ⟨oc, od, .func (fnOf name qual params [st₁, .For tg it₁ B [] pos] scope dV kV doc pm an cdv ct), osl⟩ := h
section
variable {w : World} {p : Program} {loose : List Str} {mean : ExcName → Option Value} {mg mb : Str → Option Value} {h₀ : Heap} {C lr : Addr} {vs : List Value} {nr : Nat}
theorem for_group (X : (hd.heap_39 w.params).In h₀) (T : Top p loose mean mg mb h₀) (hab : @LE.le Nat _ h₀.objs.size C) : ∃ o, (hd.heap_39 w.params).lookup 35 = some o ∧ claimOf w h₀ C lr vs nr o := by
  k_with "execs cons" => (k_here; (fail_if_success with_reducible (rename Mine.NoLet => kL)); (with_reducible refine wpAny_execs_cons ?_); (try dsimp only); refine Mine.letQS ?_; intro _ _)
  k_with "storeName" => (k_here; (fail_if_success with_reducible (rename Mine.NoStore => kL)); k_dflt (refine' Mine.storeLet (by k_asm) (by k_asm) ?_ (by rfl) (by rfl); k_whole; intro _ _ _ _; (try k_sweep)))
  k_with "off" => (intro _; intros; repeat (first | exact rfl | (refine Eq.trans (if_neg (by first | assumption | (refine' Mine.ne_of_out (by assumption) (by repeat (first | with_reducible exact List.mem_cons_self | refine List.mem_cons_of_mem _ ?_))))) ?_)))
  have hk0 : PySem.Challenge.rw_rs0134_01.row.prog = PySem.Challenge.rw_rs0134_01.row.prog := rfl
  revert hk0; revert X; k_fill; intro X hk0; clear hk0
  refine' ⟨_, ?k6, ?_⟩
  case k6 => exact rfl
  refine claimOf.mk ?_
  intro A n
  induction n using Nat.strongRecOn with
  | ind n ih =>
    intro i last r ruler mR oC oit it fs s₀ h tk rest hfs hfg hh hpop hI hr hlast hC hit hgC hk N hne hlr
    have hl : h.IsList lr vs.toArray := News.isList (fun p hp => N p (.tail _ hp)) hlr
    have hit' : h.IsListIter it lr i := ⟨oit, (N _ (.head _)).1, hit.1, hit.2⟩
    have F := (⟨hC.ns hgC, hk, hab⟩ : Fr h₀ C h _)
    refine sx_forLoop (fun v => rfl) ?_
    cases hx : vs[i]? with
    | none =>
      have hr0 : r = [] := by
        rw [← hr, List.drop_eq_nil_iff, ← hI.length]
        exact List.getElem?_eq_none_iff.mp hx
      refine wpAny_pyNext_list_end (hh _) hit' hl (by simpa using hx) fun h1 hsb1 => ?_
      refine sx_again rfl (sx_block_nil ?_)
      refine hpop .next (.inl rfl) _ _ _ ?_
      refine GPost.ret (fun b o e => hsb1 b o (fun q => ?_) (hk b o e)) (fun p hp => ⟨hsb1 _ _ (hne p hp) (N p (.tail _ hp)).1, (N p (.tail _ hp)).2⟩) ?_
      · have := (N _ (.head _)).2.2
        rw [← q, e] at this; cases this
      · rw [hr0]; rfl
    | some x =>
      refine wpAny_pyNext_list_item (x := x) hit' hl (by simpa using hx) fun h1 hit1 hsb1 => ?_
      obtain ⟨oit1, hq23⟩ := hit1
      refine anE3 hq23 ?_; clear hq23; intro hoit1 hic1 hid1
      have F1 := F.change hsb1 (N _ (.head _)).2.1 (N _ (.head _)).2.2
      have N1 : News h₀ C h1 ((it, oit1) :: rest) := fun p hp => by
        rcases List.mem_cons.mp hp with rfl | hp
        · exact ⟨hoit1, (N _ (.head _)).2⟩
        · exact ⟨hsb1.extBut _ _ (hne p hp) (N p (.tail _ hp)).1, (N p (.tail _ hp)).2⟩
      clear F N hl hit'
      dsimp only
      refine wpAny_assign_Name (storeX_L (cl := []) F1 N1 (fun h2 F2 N2 => ?_))
      clear F1 N1
      obtain ⟨k, t, rfl, hk2⟩ := intsAt hI hx
      have hr2 : r = k :: ruler.drop (i + 1) := by
        obtain ⟨hi, e⟩ := List.getElem?_eq_some_iff.mp hk2
        rw [← hr, List.drop_eq_getElem_cons hi, e]
      refine sx_cons (sx_If ?_)
      k_steps
      · rename k = 127 => e
        refine sx_cons (sx_stmt ?_)
        k_steps
        refine hpop (.ret .none) (.inr rfl) _ _ _ ?_
        refine GPost.ret F2.keep (fun p hp => N2 p (.tail _ hp)) ?_
        rw [hr2, groupS, if_pos e]
      · rename k ≠ 127 => e
        refine sx_nil ?_
        refine sx_cons (sx_If ?_)
        k_steps
        · rename k = 0 => e0
          obtain ⟨l, tl, rfl⟩ : ∃ l tl, last = some (l, tl) := by
            cases last with
            | none => exact absurd (by rw [hr2, e0]; rfl) (hlast rfl)
            | some q => exact ⟨q.1, q.2, rfl⟩
          dsimp only [lastVal] at F2
          refine sx_cons (sx_If ?_)
          k_steps
          refine sx_nil ?_
          refine sx_cons (sx_While fun p => ?_)
          obtain ⟨oC2, hg2, hoC2⟩ := ns_obj F2.ns
          have e2 : groupS (n + 1) (Option.map (fun x => x.1) (some (l, tl))) r = List.replicate (n + 1) l := by
            rw [hr2, groupS, if_neg e, if_pos e0]; rfl
          rw [e2]
          refine while_ever (tl := tl) (itl := [(it, oit1)]) (split_ret hfs) (guard_ret hfg rfl) ?_ ?_ rfl rfl n s₀ h2 _ rest hg2 F2.keep N2 ?_
          · intro A' s Q E hQ
            k_steps
            exact hQ
          · intro A' s Q E hgs hQ
            exact wpAny_Name (wpAny_loadName_local rfl rfl (hoC2.ns hgs) rfl hQ) (by decide)
          · intro p hp q hq
            rw [List.mem_singleton.mp hq]
            exact hne p hp
        · rename k ≠ 0 => e0
          refine sx_nil ?_
          obtain ⟨oC2, hg2, hoC2⟩ := ns_obj F2.ns
          have e2 : groupS (n + 1) (Option.map (fun x => x.1) last) r = k :: groupS n (some k) (ruler.drop (i + 1)) := by
            rw [hr2, groupS, if_neg e, if_neg e0]
          rw [e2]
          refine sx_cons (sx_Yield hfs rfl hfg (wpAny_Name (wpAny_loadName_local rfl rfl F2.ns rfl ?_) (by decide)))
          intro g l' kk p hres
          refine GPost.susp (itl := [(it, oit1)]) F2.keep (fun p hp => N2 p (.tail _ hp)) rfl rfl hg2 N2 ?_ ?_
          · intro p hp q hq
            rw [List.mem_singleton.mp hq]
            exact hne p hp
          cases n with
          | zero => trivial
          | succ n' =>
            refine GReady.mk (.inr ⟨_, _, _, _, rfl, rfl⟩) fun s rest' hC' hk' N' hlr' hoff' => hres _ _ ?_
            have F3 := (⟨hoC2.ns hC', hk', hab⟩ : Fr h₀ C s.heap _)
            clear F2 N2 hC hit hgC hk hne hlr
            refine sx_cons (sx_stmt ?_)
            k_steps
            rename Fr h₀ C _ _ => F4
            obtain ⟨oC4, hg4, hoC4⟩ := ns_obj F4.ns
            rename News h₀ C _ _ => N4
            refine sx_again rfl ?_
            refine ih n' (Nat.lt_succ_self n') (i + 1) (some (k, t)) _ ruler _ oC4 oit1 it fs s _ _ rest' hfs hfg hh hpop hI rfl (fun q => nomatch q) (ns_norm hoC4 rfl) ⟨hic1, hid1⟩ hg4 F4.keep N4 (fun p hp => hoff' p hp _ (.head _)) hlr'
theorem for_group2 (X : (hd.heap_39 w.params).In h₀) (T : Top p loose mean mg mb h₀) (hab : @LE.le Nat _ h₀.objs.size C) {o : Obj} (hlk : (hd.heap_39 w.params).lookup 35 = some o) : claimOf w h₀ C lr vs nr o := by
  obtain ⟨o', h1, h2⟩ := for_group (lr := lr) (vs := vs) (nr := nr) X T hab
  exact Option.some.inj (h1.symm.trans hlk) ▸ h2
end
end Mine
end
-- G04
section
theorem Mine.resetG04 : True := by (w_top off; trivial)
open PySem PySem.W PySem.W.X PyProof.Rows PyProof.Rows.LCg
set_option Elab.async false
set_option maxRecDepth 100000
set_option maxHeartbeats 8000000
namespace Mine
noncomputable abbrev genObj (g : Nat) (t1 t2 : Tok) : Obj := { cls := .type "generator", data := .fields #[.int g 0, .str (Str.ofString "_grouping_intervals") t1, .str (Str.ofString "_grouping_intervals") t2] }
section
variable {w : World} {p : Program} {loose : List Str} {mean : ExcName → Option Value} {mg mb : Str → Option Value} {dp un : Nat} {gd : Option (List Code)} {A₀ : Around} {env : Env} {outer : List Env} {base h₀ : Heap} {L : Addr} {m : Str → Option Value} {news : List (Addr × Obj)} {s : Shared} {R : Result → Shared → Prop}
theorem group_call {lr : Addr} {vs : List Value} {nr : Nat} {ruler : List Int} (F : Fr h₀ L s.heap m) (X : (hd.heap_39 w.params).In h₀) (N : News h₀ L s.heap news) (T : Top p loose mean mg mb h₀)
    (hroom : dp < recursionLimit) (hlr : (lr, listOf vs.toArray nr) ∈ news) (hI : IntsAre vs ruler) (h0 : ruler.head? ≠ some 0)
    (ret : ∀ C oC mC ga gs h' tk' t1 t2, NsObj oC mC → Fr h₀ L h' m → News h₀ L h' ((ga, genObj s.gens.size t1 t2) :: (C, oC) :: news) → (∀ p ∈ news, p.1 < C) → @LT.lt Nat _ C ga → @LE.le Nat _ h₀.objs.size C → GenState.bare gs = true →
      (∀ A, A.handled = none → ∀ n, GReady PySem.Challenge.rw_rs0134_01.row.prog w A h₀ C lr (listOf vs.toArray nr) n oC [] gs (groupS n none ruler)) →
      R (.ok (.ret (.ref ga))) { s with heap := h', toks := tk', gens := s.gens.push gs }) :
    codeAny (model PySem.Challenge.rw_rs0134_01.row.prog w) (Ar dp un gd env outer) (.call (.ref 35) ⟨[.ref lr], []⟩) R s := by
  revert X; k_fill; intro X
  have X' := X
  refine codeAny_call_generator hroom ((X.keeps F.keep) _ _ (rfl : (hd.heap_39 w.params).lookup 35 = some _)) rfl rfl rfl rfl (codeRec_of (X.keeps F.keep) rfl) ?_
  refine wpAny_of_eq (a := [(Str.ofString "grouping", Value.ref lr)]) rfl ?_
  refine wpAny_newFunctionEnv (by decide) (locs rfl) (fun h₁ hns₁ hsb₁ => ?_) rfl
  have old : ∀ b o, s.heap.get? b = some o → h₁.get? b = some o := fun b o e => hsb₁.extBut b o (Nat.ne_of_lt (Heap.lt_size e)) (Heap.get?_push_of_some _ e)
  obtain ⟨oC, hgC, hoC⟩ := ns_obj hns₁
  have F1 : Fr h₀ L h₁ m := F.keeps old
  have N1 : News h₀ L h₁ ((s.heap.objs.size, oC) :: news) := fun p hp => by
    rcases List.mem_cons.mp hp with rfl | hp
    · exact ⟨hgC, Nat.ne_of_gt F.ns.lt, next_is_new F⟩
    · exact ⟨old _ _ (N p hp).1, (N p hp).2⟩
  have hlt1 : @LT.lt Nat _ s.heap.objs.size h₁.objs.size := Heap.lt_size hgC
  have hab : @LE.le Nat _ h₀.objs.size s.heap.objs.size := Nat.le_trans F.above (Nat.le_of_lt F.ns.lt)
  refine ⟨T.nolimit.keeps F1.keep, ?_⟩
  refine ret s.heap.objs.size oC _ h₁.objs.size _ _ _ _ _ hoC (F1.push _) (N1.push F1 _) (fun p hp => Heap.lt_size (N p hp).1) hlt1 hab rfl ?_
  intro A hA n
  cases n with
  | zero => trivial
  | succ n =>
    show GReady _ w A h₀ _ lr _ (n + 1) oC [] (.fresh (.func _ (envOf (Str.ofString "_grouping_intervals") _ s.heap.objs.size 35 (.ref 34)))) _
    refine GReady.mk (.inl ⟨rfl, rfl, rfl⟩) fun s' rest hC' hk' N' hlr' _ => ?_
    have claim := for_group2 (vs := vs) (nr := nr) (lr := lr) (C := s.heap.objs.size) (w := w) X T hab rfl
    refine sx_func (sx_cons (sx_stmt ?_))
    have F3 := (⟨hoC.ns hC', hk', hab⟩ : Fr h₀ s.heap.objs.size s'.heap _)
    clear F N F1 N1 ret hC'
    k_steps
    rename Fr h₀ s.heap.objs.size _ _ => F4
    rename News h₀ s.heap.objs.size _ _ => N4
    refine sx_cons (sx_For ?_)
    refine wpAny_Name (wpAny_loadName_local rfl rfl F4.ns rfl ?_) (by decide)
    refine wpAny_pyIter_list (News.isList N4 hlr') ?_
    intro p
    dsimp only
    obtain ⟨oC5, hg5, hoC5⟩ := ns_obj (F4.push _).ns
    refine claim A n 0 none ruler ruler _ oC5 { cls := .type "list_iterator", data := .fields #[.ref lr, .int 0 0] } _ _ s' _ _ rest (split_ret rfl) (guard_ret rfl rfl) ?_ ?_ hI rfl (fun _ => h0) (ns_norm hoC5 rfl) ⟨rfl, rfl⟩ hg5 (F4.push _).keep (N4.push F4 _) (fun p hp => Nat.ne_of_lt (Heap.lt_size (N4 p hp).1)) hlr'
    · intro c
      show (marksOver _ (A.handled, A.handled)).1 = none
      rw [hA]; rfl
    · rintro f (rfl | rfl) c s P hP
      · exact sx_leaf _ (sx_end (.ok (.ret .none)) hP)
      · exact sx_leaf _ (sx_end (.ok (.ret .none)) hP)
end
end Mine
end
-- G05
section
theorem Mine.resetG05 : True := by (w_top off; trivial)
open PySem PySem.W PySem.W.X PyProof.Rows PyProof.Rows.LCg
set_option Elab.async false
set_option maxRecDepth 100000
set_option maxHeartbeats 8000000
namespace Mine
inductive GEnd (h₀ : Heap) (L : Addr) (J : (Str → Option Value) → List (Addr × Obj) → Array GenState → Prop) (s s₃ : Shared) : Prop
  | mk : ∀ (h' : Heap) (tk : Nat) (g : Array GenState) (m₂ : Str → Option Value) (news₂ : List (Addr × Obj)), s₃ = { s with heap := h', toks := tk, gens := g } → Fr h₀ L h' m₂ → News h₀ L h' news₂ → J m₂ news₂ g → GEnd h₀ L J s s₃
theorem GEnd.intro {h₀ h' : Heap} {L : Addr} {s : Shared} {J : (Str → Option Value) → List (Addr × Obj) → Array GenState → Prop} {tk : Nat} {g : Array GenState} {m₂ : Str → Option Value} {news₂ : List (Addr × Obj)}
    (F : Fr h₀ L h' m₂) (N : News h₀ L h' news₂) (hJ : J m₂ news₂ g) : GEnd h₀ L J s { s with heap := h', toks := tk, gens := g } := ⟨h', tk, g, m₂, news₂, rfl, F, N, hJ⟩
noncomputable def GFlow (h₀ : Heap) (L : Addr) (J Bk : (Str → Option Value) → List (Addr × Obj) → Array GenState → Prop) (s : Shared) (Q : Flow → Shared → Prop) (f : Flow) (s₃ : Shared) : Prop := match f with
  | .next => GEnd h₀ L J s s₃
  | .cont => GEnd h₀ L J s s₃
  | .brk => GEnd h₀ L Bk s s₃
  | .ret v => Q (.ret v) s₃
inductive GInv (h₀ : Heap) (L : Addr) (m₀ : Str → Option Value) (names : List Str) (J : Nat → (Str → Option Value) → List (Addr × Obj) → Array GenState → Prop) (s : Shared) (n : Nat) (s' : Shared) : Prop
  | mk : ∀ (h₁ : Heap) (tk₁ : Nat) (g₁ : Array GenState) (m₁ : Str → Option Value) (news₁ : List (Addr × Obj)), s' = { s with heap := h₁, toks := tk₁, gens := g₁ } → Fr h₀ L h₁ m₁ → News h₀ L h₁ news₁ → J n m₁ news₁ g₁ → (∀ z, z ∉ names → m₁ z = m₀ z) → GInv h₀ L m₀ names J s n s'
theorem GEnd.inv {h₀ : Heap} {L : Addr} {m₀ : Str → Option Value} {names : List Str} {J : Nat → (Str → Option Value) → List (Addr × Obj) → Array GenState → Prop} {s s₃ : Shared} {n : Nat} (h : GEnd h₀ L (fun m' nx g => (∃ n', n' < n ∧ J n' m' nx g) ∧ ∀ z, z ∉ names → m' z = m₀ z) s s₃) : ∃ m, m < n ∧ GInv h₀ L m₀ names J s m s₃ := by
  obtain ⟨h', tk, g, m₂, news₂, e, F₂, N₂, ⟨n', hn, J₂⟩, hm₂⟩ := h
  exact ⟨n', hn, h', tk, g, m₂, news₂, e, F₂, N₂, J₂, hm₂⟩
section
variable {prog : Program} {w : World} {A : Around} {E : Value → Shared → Prop} {s : Shared} {env : Env} {h₀ : Heap} {x : Str} {px : Pos} {body : List Stmt} {Q : Flow → Shared → Prop}
theorem forNextG {it : Value} {m₀ : Str → Option Value} {news : List (Addr × Obj)} (names : List Str) (J : Around → Nat → (Str → Option Value) → List (Addr × Obj) → Array GenState → Prop) (Bk : (Str → Option Value) → List (Addr × Obj) → Array GenState → Prop) {n₀ : Nat} {L : Addr}
    (F : Fr h₀ L s.heap m₀) (N : News h₀ L s.heap news) (hJ : J A n₀ m₀ news s.gens)
    (turn : ∀ n m₁ news₁ h₁ tk₁ g₁, Fr h₀ L h₁ (over (names.map fun y => (y, m₁ y)) m₀) → News h₀ L h₁ news₁ → J A n m₁ news₁ g₁ →
      wpAny (model prog w) A (pyNext it) (fun r s' => match r with
        | none => GEnd h₀ L (fun m' nx g => Bk m' nx g ∧ ∀ z, z ∉ names → m' z = m₀ z) s s'
        | some v => wpAny (model prog w) A (storeName env x v) (fun _ s₂ => wpAny (model prog w) A (execs body env)
            (GFlow h₀ L (fun m' nx g => (∃ n', n' < n ∧ J A n' m' nx g) ∧ ∀ z, z ∉ names → m' z = m₀ z) (fun m' nx g => Bk m' nx g ∧ ∀ z, z ∉ names → m' z = m₀ z) s Q) E s₂) E s') E { s with heap := h₁, toks := tk₁, gens := g₁ })
    (done : ∀ m₁ news₁ h₁ tk₁ g₁, Fr h₀ L h₁ (over (names.map fun y => (y, m₁ y)) m₀) → News h₀ L h₁ news₁ → Bk m₁ news₁ g₁ → Q .next { s with heap := h₁, toks := tk₁, gens := g₁ })
    (hE : PassesOwn (model prog w) A env E := by passes_own) : ForAt prog w A env x px body Q E it s := by
  have fin : ∀ s', GEnd h₀ L (fun m' nx g => Bk m' nx g ∧ ∀ z, z ∉ names → m' z = m₀ z) s s' → Q .next s' := by
    rintro s' ⟨h', tk, g, m₂, news₂, rfl, F₂, N₂, B₂, hm₂⟩
    rw [over_all names m₂ m₀ hm₂] at F₂
    exact done m₂ news₂ h' tk g F₂ N₂ B₂
  unfold ForAt
  refine codeAny_forLoop (GInv h₀ L m₀ names (J A) s) ?_ n₀ ⟨s.heap, s.toks, s.gens, m₀, news, rfl, F, N, hJ, fun _ _ => rfl⟩
  intro n s' hI
  refine letQ ?_; intro Q1
  obtain ⟨h₁, tk₁, g₁, m₁, news₁, rfl, F₁, N₁, J₁, hm⟩ := hI
  refine wpAny_mono (turn n m₁ news₁ h₁ tk₁ g₁ (over_all names m₁ m₀ hm ▸ F₁) N₁ J₁) (fun r s₂ h₂ => ?_) hE
  cases r with
  | none => exact wpAny_execs_nil (fin _ h₂)
  | some v =>
    refine wpAny_assign_Name (wpAny_mono h₂ (fun _ s₃ h₃ => wpAny_mono h₃ (fun f s₄ h₄ => ?_) hE) hE)
    cases f with
    | next => exact h₄.inv
    | cont => exact GEnd.inv h₄
    | brk => exact fin _ h₄
    | ret v => exact h₄
end
/-- what the generators' table is amid told's loop: one more, bare as all -/
structure GTab (g₀ g₁ : Array GenState) (gs : GenState) : Prop where
  size : g₁.size = g₀.size + 1
  get : g₁[g₀.size]? = some gs
  bare : AllBare g₀ → AllBare g₁
theorem bare_setAt {a : Array GenState} {g : Nat} {x : GenState} (h : AllBare a) (hx : x.bare = true) : AllBare (a.setIfInBounds g x) := by
  intro y hy
  rcases Array.mem_or_eq_of_mem_setIfInBounds hy with q | q
  · exact h y q
  · rw [q]; exact hx
theorem GTab.push {g₀ : Array GenState} {gs : GenState} (h : gs.bare = true) : GTab g₀ (g₀.push gs) gs := ⟨by simp, by simp, fun x => x.push h⟩
theorem GTab.turn {g₀ g₁ : Array GenState} {gs gs' : GenState} (h : GTab g₀ g₁ gs) (hb : gs'.bare = true) : GTab g₀ ((g₁.setIfInBounds g₀.size .running).setIfInBounds g₀.size gs') gs' :=
  ⟨by simp [h.size], by simp [h.size], fun x => bare_setAt (bare_setAt (h.bare x) rfl) hb⟩
section
variable {w : World} {A : Around} {E : Value → Shared → Prop} {s : Shared} {h₀ : Heap} {L C lr ga : Addr} {m : Str → Option Value} {news : List (Addr × Obj)}
/-- the generator is asked: the next of what it tells, or its end -/
theorem ask_group {prog : Program} {n : Nat} {olr : Obj} {oC : Obj} {itl : List (Addr × Obj)} {gs : GenState} {xs : List Int} {g₀ : Nat} {t1 t2 : Tok} {Q : Option Value → Shared → Prop} (hh : A.handled = none) (hl : s.heap.NoLimit) (hroom : A.depth < recursionLimit)
    (F : Fr h₀ L s.heap m) (N : News h₀ L s.heap (news ++ (ga, genObj g₀ t1 t2) :: (C, oC) :: itl)) (hlr : (lr, olr) ∈ news) (hgs : s.gens[g₀]? = some gs) (hab : @LE.le Nat _ h₀.objs.size C)
    (hne1 : ∀ p ∈ (ga, genObj g₀ t1 t2) :: news, ∀ q ∈ (C, oC) :: itl, p.1 ≠ q.1) (hne2 : ∀ q ∈ itl, q.1 ≠ C) (R : GReady prog w A.in1 h₀ C lr olr (n + 1) oC itl gs xs)
    (none_ : xs = [] → ∀ h' tk, Fr h₀ L h' m → News h₀ L h' news → Q none { s with heap := h', toks := tk, gens := (s.gens.setIfInBounds g₀ .running).setIfInBounds g₀ .finished })
    (some_ : ∀ x t xs' oC' itl' gs' h' tk, xs = x :: xs' → gs'.bare = true → Fr h₀ L h' m → News h₀ L h' (news ++ (ga, genObj g₀ t1 t2) :: (C, oC') :: itl') → (∀ p ∈ (ga, genObj g₀ t1 t2) :: news, ∀ q ∈ (C, oC') :: itl', p.1 ≠ q.1) → (∀ q ∈ itl', q.1 ≠ C) →
      GReady prog w A.in1 h₀ C lr olr n oC' itl' gs' xs' → Q (some (.int x t)) { s with heap := h', toks := tk, gens := (s.gens.setIfInBounds g₀ .running).setIfInBounds g₀ gs' }) :
    wpAny (model prog w) A (pyNext (.ref ga)) Q E s := by
  refine exE3 R ?_; intro c₀ t₀ fs₀ hq24
  obtain ⟨hwk, hseg⟩ := hq24
  clear R
  have zg := N (ga, genObj g₀ t1 t2) (List.mem_append_right _ (.head _))
  have zC := N (C, oC) (List.mem_append_right _ (.tail _ (.head _)))
  obtain ⟨oL, hgL, hoL⟩ := ns_obj F.ns
  have hL0 : h₀.get? L = none := by
    cases q : h₀.get? L with
    | none => rfl
    | some o => exact absurd (Nat.lt_of_lt_of_le (Heap.lt_size q) F.above) (Nat.lt_irrefl _)
  have hC0 : h₀.get? C = none := zC.2.2
  have hrest : ∀ p ∈ (ga, genObj g₀ t1 t2) :: news, s.heap.get? p.1 = some p.2 ∧ p.1 ≠ L ∧ h₀.get? p.1 = none := fun p hp => by
    rcases List.mem_cons.mp hp with rfl | hp
    · exact zg
    · exact N p (List.mem_append_left _ hp)
  refine pyNext_genX hh hl hroom ⟨_, _, _, zg.1, rfl, rfl, rfl⟩ hgs hwk ?_
  refine (hseg (s.setGen g₀ .running) ((L, oL) :: (ga, genObj g₀ t1 t2) :: news) zC.1 F.keep ?_ (.tail _ (.tail _ hlr)) ?_).mono ?_
  · intro p hp
    rcases List.mem_append.mp hp with hp | hp
    · have z := N p (List.mem_append_right _ (.tail _ (.tail _ hp)))
      exact ⟨z.1, hne2 p hp, z.2.2⟩
    · rcases List.mem_cons.mp hp with rfl | hp
      · exact ⟨hgL, zC.2.1.symm, hL0⟩
      · exact ⟨(hrest p hp).1, hne1 p hp _ (.head _), (hrest p hp).2.2⟩
  · intro p hp q hq
    rcases List.mem_cons.mp hp with rfl | hp
    · exact (N q (List.mem_append_right _ (.tail _ (.tail _ hq)))).2.1.symm
    · exact hne1 p hp q (.tail _ hq)
  · rintro e s₁ ⟨h', tk, rfl, hk, N', hm⟩
    have F' : Fr h₀ L h' m := ⟨hoL.ns (N' _ (.head _)).1, hk, F.above⟩
    cases e with
    | ret r =>
      obtain ⟨rfl, hx⟩ := hm
      refine ⟨rfl, fun h'' hk'' => ?_⟩
      exact none_ hx h'' tk (F'.keeps hk'') (fun p hp => ⟨hk'' _ _ (N' p (.tail _ (.tail _ hp))).1, (hrest p (.tail _ hp)).2⟩)
    | susp v gd l k c p fs =>
      refine exE5 hm ?_; intro x t xs' oC' itl' hq26
      refine anE6 hq26 ?_; clear hq26; intro hx hr26 hgC' N2 hoff R'
      clear hm
      subst hr26
      intro hb
      refine some_ x t xs' oC' itl' _ h' tk hx hb F' ?_ ?_ ?_ R'
      · intro p hp
        rcases List.mem_append.mp hp with hp | hp
        · exact ⟨(N' p (.tail _ (.tail _ hp))).1, (hrest p (.tail _ hp)).2⟩
        · rcases List.mem_cons.mp hp with rfl | hp
          · exact ⟨(N' _ (.tail _ (.head _))).1, zg.2⟩
          · rcases List.mem_cons.mp hp with rfl | hp
            · exact ⟨hgC', zC.2⟩
            · have z := N2 p (List.mem_append_left _ hp)
              exact ⟨z.1, (hoff _ (.head _) p hp).symm, z.2.2⟩
      · intro p hp q hq
        rcases List.mem_cons.mp hq with rfl | hq
        · exact hne1 p hp (C, oC) (.head _)
        · exact hoff p (.tail _ hp) q hq
      · intro q hq
        exact (N2 q (List.mem_append_left _ hq)).2.1
end
end Mine
end
-- G06
section
theorem Mine.resetG06 : True := by (w_top off; trivial)
open PySem PySem.W PySem.W.X PyProof.Rows PyProof.Rows.LCg
set_option Elab.async false
set_option maxRecDepth 100000
set_option maxHeartbeats 8000000
namespace Mine
noncomputable def toldGo (c : Int) : Nat → List Int → List Int → List Int
  | 0, _, l => l
  | _ + 1, [], l => l
  | n + 1, x :: xs, l => if l.sum = c ∨ 9 < l.length then l else toldGo c n xs (l ++ [if c - l.sum < x then c - l.sum else x])
noncomputable def toldF (ruler : List Int) (c : Int) : List Int := toldGo c 12 (groupS 12 none ruler) []
section
variable {w : World} {p : Program} {loose : List Str} {mean : ExcName → Option Value} {mg mb : Str → Option Value} {dp un : Nat} {gd : Option (List Code)} {A₀ : Around} {env : Env} {outer : List Env} {base h₀ : Heap} {L : Addr} {m : Str → Option Value} {news : List (Addr × Obj)} {s : Shared} {R : Result → Shared → Prop}
theorem pyIter_gen_ {A : Around} {E : Value → Shared → Prop} {L ga : Addr} {g : Nat} {t1 t2 : Tok} {news : List (Addr × Obj)} {Q : Value → Shared → Prop} (N : News h₀ L s.heap ((ga, genObj g t1 t2) :: news)) (h : Q (.ref ga) s) :
    wpAny (model PySem.Challenge.rw_rs0134_01.row.prog w) A (pyIter (.ref ga)) Q E s := wpAny_pyIter_gen ⟨_, _, _, (N _ (.head _)).1, rfl, rfl, rfl⟩ h
theorem told_code {lr : Addr} {rvs : List Value} {nr : Nat} {ruler : List Int} {c : Int} {t3 : Tok} (B : Below A₀ base outer h₀) (F : Fr h₀ L s.heap m) (X : (hd.heap_39 w.params).In h₀) (N : News h₀ L s.heap news) (T : Top p loose mean mg mb h₀)
    (hf : env.frame = some L) (hke : env.scope.kind = .function) (hroom : dp + 4 < recursionLimit)
    (hlr : (lr, listOf rvs.toArray nr) ∈ news) (hI : IntsAre rvs ruler) (h0 : ruler.head? ≠ some 0)
    (ret : ∀ r vs n h' tk' g', Fr h₀ L h' m → News h₀ L h' ((r, listOf vs.toArray n) :: news) → IntsAre vs (toldF ruler c) → (∀ p ∈ news, p.1 < r) → (AllBare s.gens → AllBare g') → R (.ok (.ret (.ref r))) { s with heap := h', toks := tk', gens := g' }) :
    codeAny (model PySem.Challenge.rw_rs0134_01.row.prog w) (Ar dp un gd env outer) (.call (.ref 157) ⟨[.ref lr, .int c t3], []⟩) R s := by
  k_with "unf" => (refine' code_defC ?enk1 ?enk2 ?enk3 ?enk4 ?enk5 ?enkA ?enkF ?enkK ?enk6 ?enk7 ?enk8 ?enk9 ?enkB ?enkD ?_ ?enc2 ?enc3 ?enc4; (case enkA => exact rfl); (case enkF => assumption); (case enkK => assumption); (case enk1 => k_asm); (case enk2 => k_asm); (case enk3 => k_asm); (case enk4 => k_asm); (case enk5 => k_asm); (case enk6 => k_is); (case enk7 => k_is); (case enk8 => first | assumption | (show _ < recursionLimit; dsimp only; omega) | ktr_room); (case enk9 => exact BindsTo.of_eq rfl); (case enkB => exact rfl); (case enkD => decide +kernel); (case enc2 => exact rfl); (case enc3 => exact rfl); (case enc4 => exact rfl); k_whole; intro _ _ _ _ _ _ _ zN' zY' zB' _ _ zl1; (try k_lt zl1); k_cells zY'; (try simp only [List.cons_append, List.nil_append] at zN'); (try dsimp only); (try k_lift zB'); (try k_fold))
  k_with "enter" => (refine' code_def ?enk1 ?enk2 ?enk3 ?enk4 ?enk5 ?enkA ?enkF ?enkK ?enk6 ?enk7 ?enk8 ?enk9 ?enkB ?_ ?enc2 ?enc3 ?enc4 ?enc5; (case enkA => exact rfl); (case enkF => assumption); (case enkK => assumption); (case enk1 => k_asm); (case enk2 => k_asm); (case enk3 => k_asm); (case enk4 => k_asm); (case enk5 => k_asm); (case enk6 => k_is); (case enk7 => k_is); (case enk8 => first | assumption | (show _ < recursionLimit; dsimp only; omega) | ktr_room); (case enk9 => exact BindsTo.of_eq rfl); (case enc5 => decide); (case enkB => exact locs rfl); (case enc2 => exact rfl); (case enc3 => exact rfl); (case enc4 => exact rfl); k_whole; intro _ _ _ _ _ _ _ _ _; (try dsimp only); (try k_fold))
  k_with "InvEndG" => (refine Hold.mk ?_)
  k_with "pyIter ref" => (refine Hold.mk ?_)
  k_with "call ref" => (k_here; (with_reducible show wpAny _ _ (call (Value.ref 28) _) _ _ _); (with_reducible refine wpAny_call (strcoll_code (by k_asm) (by k_asm) (by k_asm) (by k_asm) (by k_asm) rfl rfl (by first | assumption | (dsimp only [Around.deeper]; omega)) ?_)); intro _ _ _ _ _; (try dsimp only))
  k_with "kall" => (first | exact List.forall_mem_nil _ | assumption | exact all_ne_of_lt (by assumption) | (refine' List.forall_mem_cons.mpr ⟨(by k_ne), (by k_all)⟩) | exact tbn_neAll (by assumption) | exact tbn_neAll (And.right (by assumption)) | exact tbn_neAll (And.right (And.right (by assumption))) | exact tbn_neAll (And.right (And.right (And.right (by assumption)))) | exact tbn_neAll (And.right (And.right (And.right (And.right (by assumption))))) | exact tbn_neAll (And.right (And.right (And.right (And.right (And.right (by assumption)))))) | exact tbn_neAll (And.right (And.right (And.right (And.right (And.right (And.right (by assumption))))))) | exact tbn_neAll (And.right (And.right (And.right (And.right (And.right (And.right (And.right (by assumption)))))))) | exact tbn_neAll (And.right (And.right (And.right (And.right (And.right (And.right (And.right (And.right (by assumption))))))))) | exact tbn_neAll (And.right (And.right (And.right (And.right (And.right (And.right (And.right (And.right (And.right (by assumption)))))))))) | exact tbn_neAll (And.right (And.right (And.right (And.right (And.right (And.right (And.right (And.right (And.right (And.right (by assumption))))))))))))
  k_with "call builtin:list.append" => (k_here; (with_reducible show wpAny _ _ (call (Value.builtin _) [Value.ref _, _]) _ _ _); k_dflt (refine' append_K (by k_asm) (by k_asm) (by k_upd) ?_ (by first | assumption | size_fits); k_whole); intro _ _ _; (try k_sweep))
  k_with "brkQ" => (dsimp only [brkQ])
  k_with "BrkEnd" => (refine Hold.mk ?_)
  k_with "call builtin:len" => (k_here; (with_reducible show wpAny _ _ (call (Value.builtin "len") [Value.str _ _]) _ _ _); refine len_str (by omega) ?_)
  k_with "call builtin:len" => (k_here; (with_reducible show wpAny _ _ (call (Value.builtin "len") [Value.ref _]) _ _ _); refine PyProof.Rows.len_list (News.isList (by k_asm) (by k_mem)) (by rw [List.size_toArray]; first | omega | (simp only [List.length_cons]; omega)) ?_; rw [List.size_toArray])
  k_with "call builtin:len" => (k_here; (with_reducible show wpAny _ _ (call (Value.builtin "len") [Value.ref _]) _ _ _); refine PyProof.Rows.len_tuple (News.isTup (by k_asm) (by k_mem)) (by rw [List.size_toArray]; omega) ?_; rw [List.size_toArray])
  k_with "kmem" => (with_reducible first | assumption | exact List.mem_cons_self | (refine List.mem_cons_of_mem _ ?_; k_mem) | (refine List.mem_append_left _ ?_; k_mem))
  k_with "CompSrc" => (refine Hold.mk ?_)
  k_with "call builtin:sum" => (k_here; (with_reducible show wpAny _ _ (call (Value.builtin "sum") [Value.ref _]) _ _ _); refine LSm.sum_ints (by k_asm) (by k_asm) rfl (News.isList (by k_asm) (by with_reducible k_mem)) (by assumption) ?_; intro _ _ _ _ _; (try dsimp only))
  k_with "exec For Name Call cons nil" => (refine Hold.mk ?_)
  k_with "call ref" => (k_here; (with_reducible show wpAny _ _ (call (Value.ref 35) _) _ _ _); refine Hold.mk ?_)
  k_with "om" => with_reducible first | exact Mine.om194 (by assumption) (by assumption) | exact Mine.om227 (by assumption) | exact Mine.om255 (by assumption) (by assumption) | exact Mine.om263 (by assumption) (by assumption) | exact Mine.om267 (by assumption) (by assumption) (by assumption) | exact Mine.om292 (by assumption) (by assumption) | exact Mine.om302 (by assumption) | exact Mine.om306 (by assumption) (by assumption) | exact Mine.om148 (by assumption) | exact Mine.om2 (by assumption) | exact Mine.om36 | fail
  revert X; k_fill; intro X
  have hroom0 : dp < recursionLimit := by omega
  k_dflt (k_extra "enter")
  rename_i gG LG _ FG _ _ BB _ TG
  k_steps
  unfold Hold
  rename Fr _ _ _ _ => F1
  refine For_any F1 ?_
  k_steps
  unfold Hold
  rename Fr _ _ _ _ => F2
  rename News _ _ _ _ => N2
  rename ∀ p ∈ news, _ => hlt
  rename_i sl _ _ _ _ _
  refine wpAny_call (group_call F2 (by k_asm) N2 (by k_asm) (by first | assumption | (dsimp only [Around.deeper]; omega)) (.tail _ hlr) hI h0 ?_)
  intro C oC mC ga gs h1 tk1 t1 t2 hoC F3 N3 hltC hCga hab hbare hready
  clear F2 N2
  refine pyIter_gen_ N3 ?_
  have hslC : @LT.lt Nat _ sl C := hltC (sl, listOf #[] 0) (.head _)
  have hga : @LT.lt Nat _ C ga := hCga
  refine forNextG [Str.ofString "size"] (fun A n _ nx g => ∃ oC itl gs xs l vs k, nx = (sl, listOf (List.toArray vs) k) :: (news ++ (ga, genObj s.gens.size t1 t2) :: (C, oC) :: itl) ∧ IntsAre vs l ∧ toldGo c n xs l = toldF ruler c ∧ l.length + n = 12 ∧ l.length ≤ 10 ∧ GTab s.gens g gs ∧
      GReady PySem.Challenge.rw_rs0134_01.row.prog w A.in1 gG C lr (listOf rvs.toArray nr) n oC itl gs xs ∧ (∀ p ∈ news, ∀ q ∈ itl, p.1 ≠ q.1) ∧ (∀ q ∈ itl, q.1 ≠ sl ∧ q.1 ≠ ga ∧ q.1 ≠ C))
    (fun _ nx g => ∃ vs k rest, nx = (sl, listOf (List.toArray vs) k) :: (news ++ rest) ∧ IntsAre vs (toldF ruler c) ∧ (AllBare s.gens → AllBare g)) (n₀ := 12) F3 (news := (sl, listOf #[] 0) :: (news ++ [(ga, genObj s.gens.size t1 t2), (C, oC)])) ?_ ?_ ?_ ?_
  · intro p hp
    rcases List.mem_cons.mp hp with rfl | hp
    · exact N3 _ (.tail _ (.tail _ (.head _)))
    · rcases List.mem_append.mp hp with hp | hp
      · exact N3 p (.tail _ (.tail _ (.tail _ hp)))
      · rcases List.mem_cons.mp hp with rfl | hp
        · exact N3 _ (.head _)
        · exact N3 p (.tail _ (List.mem_cons.mpr (.inl (List.mem_singleton.mp hp))))
  · exact ⟨oC, [], gs, groupS 12 none ruler, [], [], 0, rfl, .nil, rfl, rfl, by decide, GTab.push hbare, hready _ rfl 12, fun _ _ _ hq => (nomatch hq), fun _ hq => (nomatch hq)⟩
  · rintro n m₁ nx h2 tk2 g2 F4 N4 hp30
    try (refine letQS ?_; intro Q31 s31)
    refine exE7 hp30 ?_; intro oC itl gs xs l vs k hq28
    refine anE9 hq28 ?_; clear hq28; intro hr28 hI2 hto hn hlen hG hR hoff1 hoff2
    clear hp30
    subst hr28
    simp only [List.map, over] at F4
    clear F3 N3 hready
    obtain ⟨n', rfl⟩ : ∃ n', n = n' + 1 := ⟨n - 1, by omega⟩
    have hA : (Ar dp un gd env outer).handled = none := rfl
    have hgaC : @Ne Nat ga C := by have := ltN hCga; omega
    have hslC' := ltN hslC
    have hga' := ltN hga
    refine ask_group (news := (sl, listOf (List.toArray vs) k) :: news) rfl (TG.nolimit.keeps F4.keep) ?_ F4 N4 (.tail _ hlr) hG.get hab ?_ (fun q hq => (hoff2 q hq).2.2) hR ?_ ?_
    · dsimp only [Around.deeper]; omega
    · intro p hp q hq
      rcases List.mem_cons.mp hq with rfl | hq
      · rcases List.mem_cons.mp hp with rfl | hp
        · exact hgaC
        · rcases List.mem_cons.mp hp with rfl | hp
          · exact Nat.ne_of_lt hslC'
          · exact Nat.ne_of_lt (hltC p (.tail _ hp))
      · rcases List.mem_cons.mp hp with rfl | hp
        · exact (hoff2 q hq).2.1.symm
        · rcases List.mem_cons.mp hp with rfl | hp
          · exact (hoff2 q hq).1.symm
          · exact hoff1 p hp q hq
    · intro hx h3 tk3 F5 N5
      refine GEnd.intro F5 N5 ⟨⟨vs, k, [], by simp, ?_, fun hb => bare_setAt (bare_setAt (hG.bare hb) rfl) rfl⟩, ?_⟩
      · rw [← hto, hx]; exact hI2
      · walk_at "off"
    · intro x t xs' oC' itl' gs' h3 tk3 hx hb F5 N5 hne1 hne2 hR'
      clear F4 N4 hR
      have hsl1 : ∀ p ∈ (news ++ (ga, genObj s.gens.size t1 t2) :: (C, oC') :: itl'), p.1 ≠ sl := by
        intro p hp
        rcases List.mem_append.mp hp with hp | hp
        · exact Nat.ne_of_lt (hlt p hp)
        · rcases List.mem_cons.mp hp with rfl | hp
          · exact fun e => by have e' : @Eq Nat ga sl := e; omega
          · exact (hne1 (sl, listOf (List.toArray vs) k) (.tail _ (.head _)) p hp).symm
      have hvl : vs.length = l.length := hI2.length
      have hsz : vs.toArray.size ≤ sizeLine := by rw [List.size_toArray, sizeLine_eq]; omega
      have N5' : News gG LG h3 ((sl, listOf (List.toArray vs) k) :: (news ++ (ga, genObj s.gens.size t1 t2) :: (C, oC') :: itl')) := N5
      clear N5
      k_steps
      · rename l.sum = c => he
        show GEnd _ _ _ _ _
        refine GEnd.intro (by k_asm) (by k_asm) ⟨⟨vs, k, _, rfl, ?_, (hG.turn hb).bare⟩, ?_⟩
        · rw [← hto, hx, toldGo, if_pos (.inl he)]; exact hI2
        · walk_at "off"
      · rename (9 : Int) < _ => he
        show GEnd _ _ _ _ _
        refine GEnd.intro (by k_asm) (by k_asm) ⟨⟨vs, k, _, rfl, ?_, (hG.turn hb).bare⟩, ?_⟩
        · rw [← hto, hx, toldGo, if_pos (.inr (by omega))]; exact hI2
        · walk_at "off"
      · rename l.sum ≠ c => he1
        rename ¬ (9 : Int) < _ => he2
        rename News gG LG _ _ => N6
        rw [List.push_toArray] at N6
        show GEnd _ _ _ _ _
        refine GEnd.intro (by k_asm) N6 ⟨⟨n', Nat.lt_succ_self n', oC', itl', gs', xs', l ++ [if c - l.sum < x then c - l.sum else x], _, k + 1, rfl, IntsAre.snoc hI2 _ _, ?_, ?_, ?_, hG.turn hb, hR', fun p hp q hq => hne1 p (.tail _ (.tail _ hp)) q (.tail _ hq), fun q hq => ⟨(hne1 (sl, listOf (List.toArray vs) k) (.tail _ (.head _)) q (.tail _ hq)).symm, (hne1 _ (.head _) q (.tail _ hq)).symm, hne2 q hq⟩⟩, ?_⟩
        · have e : ¬ (l.sum = c ∨ 9 < l.length) := by rintro (q | q) <;> omega
          rw [← hto, hx, toldGo, if_neg e]
        · simp only [List.length_append, List.length_singleton]; omega
        · simp only [List.length_append, List.length_singleton]; omega
        · walk_at "off"
  · rintro m₁ nx h2 tk2 g2 F4 N4 hp32
    try (refine letQS ?_; intro Q33 s33)
    refine exE3 hp32 ?_; intro vs k rest hq30
    refine anE3 hq30 ?_; clear hq30; intro hr30 hI2 hb
    clear hp32
    subst hr30
    simp only [List.map, over] at F4
    clear F3 N3 hready
    k_steps
    rename News h₀ L _ _ => N9
    exact ret sl vs k _ _ _ (by k_asm) (cb_drop N9 (fun p hp => (List.mem_cons.mp hp).elim (fun e => List.mem_cons.mpr (.inl e)) fun q => List.mem_cons.mpr (.inr (List.mem_append_left _ q)))) hI2 hlt hb
end
end Mine
end
-- G07
section
theorem Mine.resetG07 : True := by (w_top off; trivial)
open PySem PySem.W PyProof.Rows PyProof.Rows.LCg
set_option Elab.async false
set_option maxRecDepth 100000
set_option maxHeartbeats 8000000
namespace Mine
/-- an iterator by the ledger: n turns; dep, what it reads; Own, its own objects at a turn; P, what a turn hands on and the new objects -/
structure LIt (prog : Program) (w : World) (A : Around) (h₀ : Heap) (L : Addr) (target : Expr) (it : Value) (n : Nat) (dep : List (Addr × Obj)) (Own : Nat → List (Addr × Obj) → Prop) (P : Nat → Value → List (Addr × Obj) → Prop) : Prop where
  item : ∀ i own X (s : Shared) m (Q : Value → Shared → Prop) (E : Value → Shared → Prop), i < n → Own i own → Fr h₀ L s.heap m → News h₀ L s.heap (own ++ X) → (∀ p ∈ dep, p ∈ X) → (∀ q ∈ own, ∀ p ∈ X, p.1 ≠ q.1) →
    (∀ v ext own' h' tk, P i v ext → Own (i + 1) own' → Fr h₀ L h' m → News h₀ L h' (ext ++ (own' ++ X)) → (∀ q ∈ own', ∀ p ∈ X, p.1 ≠ q.1) → (∀ e ∈ ext, ∀ p ∈ own' ++ X, p.1 < e.1) → Q v { s with heap := h', toks := tk }) →
    wpAny (model prog w) A (pyNext it) (fun r s₁ => ∃ v, r = some v ∧ wpAny (model prog w) A (letOwnedTupleGo target it v) (fun _ s₂ => Q v s₂) E s₁) E s
  done : ∀ own X (s : Shared) m (Q : Option Value → Shared → Prop) (E : Value → Shared → Prop), Own n own → Fr h₀ L s.heap m → News h₀ L s.heap (own ++ X) → (∀ p ∈ dep, p ∈ X) → (∀ q ∈ own, ∀ p ∈ X, p.1 ≠ q.1) →
    (∀ h' tk, Fr h₀ L h' m → News h₀ L h' X → Q none { s with heap := h', toks := tk }) → wpAny (model prog w) A (pyNext it) Q E s
  self : ∀ i own X (s : Shared) (Q : Value → Shared → Prop) (E : Value → Shared → Prop), Own i own → News h₀ L s.heap (own ++ X) → Q it s → wpAny (model prog w) A (pyIter it) Q E s
section
variable {prog : Program} {w : World} {A : Around} {h₀ : Heap} {L : Addr}
theorem news_one {h h' : Heap} {I : Addr} {o o' : Obj} {X : List (Addr × Obj)} (N : News h₀ L h ([(I, o)] ++ X)) (off : ∀ p ∈ X, p.1 ≠ I) (hs : Heap.ExtBut I h h') (ho : h'.get? I = some o') : News h₀ L h' ([(I, o')] ++ X) := fun p hp => by
  rcases List.mem_cons.mp hp with rfl | hp
  · exact ⟨ho, (N _ (.head _)).2⟩
  · exact ⟨hs _ _ (off p hp) (N p (.tail _ hp)).1, (N p (.tail _ hp)).2⟩
theorem fr_ext {h h' : Heap} {I : Addr} {m : Str → Option Value} (F : Fr h₀ L h m) (hs : Heap.ExtBut I h h') (hL : I ≠ L) (h0 : h₀.get? I = none) : Fr h₀ L h' m :=
  ⟨F.ns.at' fun o e => hs L o hL.symm e, fun b o e => hs b o (fun q => by rw [q, h0] at e; cases e) (F.keep b o e), F.above⟩
noncomputable abbrev rgIter (x left : Int) : Obj := { cls := .type "range_iterator", dict := none, data := .fields #[rawInt x, rawInt left, rawInt 1], slots := #[] }
theorem LIt.range (hh : A.handled = none) {x : Str} {px : Pos} {I : Addr} {a : Int} {n : Nat} :
    LIt prog w A h₀ L (.Name x px) (.ref I) n [] (fun i own => own = [(I, rgIter (a + i) ((n : Int) - i))]) (fun i v ext => ext = [] ∧ ∃ t, v = .int (a + i) t) where
  item := by
    rintro i own X s m Q E hi rfl F N hd off k
    have z := N _ (.head _)
    refine wpAny_pyNext_range_item z.1 (by omega) fun h' hit' hs' => ⟨_, rfl, wpAny_pure ?_⟩
    have e1 : a + ((i + 1 : Nat) : Int) = a + (i : Int) + 1 := by push_cast; omega
    have e2 : (n : Int) - ((i + 1 : Nat) : Int) = (n : Int) - (i : Int) - 1 := by push_cast; omega
    refine k _ [] [(I, rgIter (a + (i + 1 : Nat)) ((n : Int) - (i + 1 : Nat)))] h' _ ⟨rfl, _, rfl⟩ rfl (fr_ext F hs'.extBut z.2.1 z.2.2) ?_ (fun q hq p hp => by rw [List.mem_singleton.mp hq]; exact off _ (.head _) p hp) (fun _ he => nomatch he)
    refine news_one N (off _ (.head _)) hs'.extBut ?_
    rw [e1, e2]; exact hit'
  done := by
    rintro own X s m Q E rfl F N hd off k
    have z := N _ (.head _)
    refine wpAny_pyNext_range_end hh z.1 (by omega) fun h' he' => ?_
    exact k h' s.toks (fr_ext F he' z.2.1 z.2.2) fun p hp => ⟨he' _ _ (off _ (.head _) p hp) (N p (.tail _ hp)).1, (N p (.tail _ hp)).2⟩
  self := by
    rintro i own X s Q E rfl N k
    exact wpAny_pyIter_rangeiter (N _ (.head _)).1 k
theorem LIt.list (hh : A.handled = none) {x : Str} {px : Pos} {I l : Addr} {vs : List Value} {kl : Nat} :
    LIt prog w A h₀ L (.Name x px) (.ref I) vs.length [(l, listOf vs.toArray kl)] (fun i own => ∃ oI, own = [(I, oI)] ∧ LIter oI l i) (fun i v ext => ext = [] ∧ vs[i]? = some v) where
  item := by
    rintro i own X s m Q E hi ⟨oI, rfl, hI⟩ F N hd off k
    have z := N _ (.head _)
    have hl : s.heap.IsList l vs.toArray := News.isList (fun p hp => N p (.tail _ hp)) (hd _ (.head _))
    refine wpAny_pyNext_list_item (x := vs[i]) ⟨oI, z.1, hI.1, hI.2⟩ hl (by simp [hi]) fun h' hit' hs' => ⟨_, rfl, wpAny_pure ?_⟩
    obtain ⟨o', ho', hc', hd'⟩ := hit'
    exact k _ [] [(I, o')] h' _ ⟨rfl, by simp [hi]⟩ ⟨o', rfl, hc', hd'⟩ (fr_ext F hs'.extBut z.2.1 z.2.2) (news_one N (off _ (.head _)) hs'.extBut ho') (fun q hq p hp => by rw [List.mem_singleton.mp hq]; exact off _ (.head _) p hp) (fun _ he => nomatch he)
  done := by
    rintro own X s m Q E ⟨oI, rfl, hI⟩ F N hd off k
    have z := N _ (.head _)
    have hl : s.heap.IsList l vs.toArray := News.isList (fun p hp => N p (.tail _ hp)) (hd _ (.head _))
    refine wpAny_pyNext_list_end hh ⟨oI, z.1, hI.1, hI.2⟩ hl (by simp) fun h' he' => ?_
    exact k h' s.toks (fr_ext F he' z.2.1 z.2.2) fun p hp => ⟨he' _ _ (off _ (.head _) p hp) (N p (.tail _ hp)).1, (N p (.tail _ hp)).2⟩
  self := by
    rintro i own X s Q E ⟨oI, rfl, hI⟩ N k
    exact wpAny_pyIter_listiter ⟨oI, (N _ (.head _)).1, hI.1, hI.2⟩ k
end
end Mine
end
-- G08
section
theorem Mine.resetG08 : True := by (w_top off; trivial)
open PySem PySem.W PyProof.Rows PyProof.Rows.LCg
set_option Elab.async false
set_option maxRecDepth 100000
set_option maxHeartbeats 8000000
namespace Mine
/-- what a zip draws from: a list or a text of plain signs -/
inductive ZSrc where
  | list (l : Addr) (vs : List Value) (k : Nat)
  | str (x : Str) (t : Tok)
noncomputable def ZSrc.size : ZSrc → Nat
  | .list _ vs _ => vs.length
  | .str x _ => x.cps.size
noncomputable def ZSrc.Is : ZSrc → Obj → Nat → Prop
  | .list l _ _, o, i => LIter o l i
  | .str x t, o, i => o.cls = .type "str_ascii_iterator" ∧ o.data = .fields #[.str x t, .int i 0]
noncomputable def ZSrc.Item : ZSrc → Nat → Value → Prop
  | .list _ vs _, i, v => vs[i]? = some v
  | .str x _, i, v => ∃ c u, x.cps[i]? = some c ∧ v = .str ⟨#[c]⟩ u
noncomputable def ZSrc.In : ZSrc → Heap → Prop
  | .list l vs _, h => h.IsList l vs.toArray
  | .str _ _, _ => True
noncomputable def ZSrc.Off : ZSrc → Addr → Prop
  | .list l _ _, a => l ≠ a
  | .str _ _, _ => True
noncomputable def ZSrc.dep : ZSrc → List (Addr × Obj)
  | .list l vs k => [(l, listOf vs.toArray k)]
  | .str _ _ => []
theorem ZSrc.In.ext {c : ZSrc} {h h' : Heap} {a : Addr} (x : c.In h) (hs : Heap.ExtBut a h h') (o : c.Off a) : c.In h' := by
  cases c with
  | list l vs k => exact Heap.IsList.extBut x hs o
  | str => trivial
section
variable {prog : Program} {w : World} {A : Around} {E : Value → Shared → Prop} {s : Shared}
theorem src_item {c : ZSrc} {i1 : Addr} {o : Obj} {k : Nat} {Q : Value → Shared → Prop} (ho : s.heap.get? i1 = some o) (hi : c.Is o k) (hin : c.In s.heap) (hk : k < c.size)
    (hQ : ∀ v o' h' tk, c.Item k v → c.Is o' (k + 1) → h'.get? i1 = some o' → Heap.SameBut i1 s.heap h' → Q v { s with heap := h', toks := tk }) : wpAny (model prog w) A (Builtin.SmallTypes.nextOf (.ref i1)) Q E s := by
  cases c with
  | list l vs kk =>
    have hk' : k < vs.length := hk
    refine wpAny_nextOf_list_item ⟨o, ho, hi.1, hi.2⟩ hin (x := vs[k]) (by simp [hk']) fun h' hit' hs' => ?_
    obtain ⟨o', hq31⟩ := hit'
    refine anE3 hq31 ?_; clear hq31; intro ho' hc' hd'
    exact hQ _ o' h' s.toks (by simp [ZSrc.Item, hk']) ⟨hc', hd'⟩ ho' hs'
  | str x t =>
    have hk' : k < x.cps.size := hk
    refine wpAny_nextOf_ascii_item ⟨o, ho, hi.1, hi.2⟩ (c := x.cps[k]) (by simp [hk']) fun h' hit' hs' => ?_
    obtain ⟨o', hq32⟩ := hit'
    refine anE3 hq32 ?_; clear hq32; intro ho' hc' hd'
    exact hQ _ o' h' (s.toks + 1) ⟨_, _, by simp [hk'], rfl⟩ ⟨hc', hd'⟩ ho' hs'
theorem src_end {c : ZSrc} {i1 : Addr} {o : Obj} {k : Nat} {Q : Value → Shared → Prop} (hh : A.handled = none) (ho : s.heap.get? i1 = some o) (hi : c.Is o k) (hin : c.In s.heap) (hk : c.size ≤ k)
    (hE : ∀ h' e, Heap.ExtBut i1 s.heap h' → (∃ o, h'.get? e = some o ∧ o.cls = .type "StopIteration") → E (.ref e) { s with heap := h' }) : wpAny (model prog w) A (Builtin.SmallTypes.nextOf (.ref i1)) Q E s := by
  cases c with
  | list l vs kk =>
    have hk' : vs.length ≤ k := hk
    exact wpAny_nextOf_list_end hh ⟨o, ho, hi.1, hi.2⟩ hin (by simp [hk']) hE
  | str x t =>
    have hk' : x.cps.size ≤ k := hk
    exact wpAny_nextOf_ascii_end hh ⟨o, ho, hi.1, hi.2⟩ (by simp [hk']) hE
structure ZApart (z TI TO i1 i2 : Addr) : Prop where
  TIz : TI ≠ z
  TOz : TO ≠ z
  i1z : i1 ≠ z
  i2z : i2 ≠ z
  TITO : TI ≠ TO
  TIi1 : TI ≠ i1
  TIi2 : TI ≠ i2
  TOi1 : TO ≠ i1
  TOi2 : TO ≠ i2
  i12 : i1 ≠ i2
structure ZOff (c : ZSrc) (z TO i1 i2 : Addr) : Prop where
  z : c.Off z
  TO : c.Off TO
  i1 : c.Off i1
  i2 : c.Off i2
theorem zipS_item {z TI TO i1 i2 : Addr} {c1 c2 : ZSrc} {k1 k2 : Nat} {o1 o2 : Obj} {a b : Value} {Q : Value → Shared → Prop} (D : ZApart z TI TO i1 i2) (D1 : ZOff c1 z TO i1 i2) (D2 : ZOff c2 z TO i1 i2)
    (hz : IsZip s.heap z TI TO .none) (hTI : IsPair s.heap TI (.ref i1) (.ref i2)) (hTO : IsPair s.heap TO a b) (h1 : s.heap.get? i1 = some o1) (h2 : s.heap.get? i2 = some o2) (hi1 : c1.Is o1 k1) (hi2 : c2.Is o2 k2) (hn1 : c1.In s.heap) (hn2 : c2.In s.heap) (hk1 : k1 < c1.size) (hk2 : k2 < c2.size)
    (hQ : ∀ x y o1' o2' h' tk, c1.Item k1 x → c2.Item k2 y → IsZip h' z TI TO (rawInt s.heap.objs.size) → IsPair h' TO x y → h'.get? i1 = some o1' → h'.get? i2 = some o2' → c1.Is o1' (k1 + 1) → c2.Is o2' (k2 + 1) → IsPair h' s.heap.objs.size x y →
      (∀ c o, c ≠ z → c ≠ TO → c ≠ i1 → c ≠ i2 → s.heap.get? c = some o → h'.get? c = some o) → Q (.ref s.heap.objs.size) { s with heap := h', toks := tk }) :
    wpAny (model prog w) A (Builtin.«zip.__next__» ⟨[.ref z], []⟩) (fun fin s' => ∃ v, fin = .done (.ret v) ∧ Q v s') E s := by
  k_with_none
  k_with "om" => with_reducible first | exact Mine.om29 | fail
  show wpAny _ _ (field (.ref z) 2 >>= _) _ _ _
  refine wpAny_bind (wpAny_field hz rfl (x := .bool false) rfl ?_)
  show wpAny _ _ (field (.ref z) 3 >>= _) _ _ _
  refine wpAny_bind (wpAny_field hz rfl (x := .ref TI) rfl ?_)
  refine wpAny_bind (wpAny_seqItems hTI rfl ?_)
  show wpAny _ _ (Builtin.SmallTypes.ownedTupleIsFree (.ref z) >>= _) _ _ _
  refine wpAny_bind ?_
  unfold Builtin.SmallTypes.ownedTupleIsFree
  refine wpAny_bind (wpAny_field hz rfl (x := .none) rfl (wpAny_pure ?_))
  simp only [if_true]
  refine wpAny_bind (wpAny_rule ?_)
  refine wpAny_bind (wpAny_field hz rfl (x := .ref TO) rfl ?_)
  refine wpAny_bind (wpAny_setField_rec hz (by simp) fun h₁ hz₁ hs₁ => ?_)
  replace hz₁ : IsZip h₁ z TI TO .ellipsis := hz₁
  refine wpAny_bind ?_
  simp only [List.zipIdx_cons, List.zipIdx_nil, List.forIn_cons, List.forIn_nil]
  refine wpAny_bind (wpAny_bind (wpAny_onRaise ?_))
  show wpAny _ _ (Builtin.SmallTypes.nextOf (.ref i1) >>= _) _ _ _
  refine wpAny_bind (src_item (hs₁.extBut _ _ D.i1z h1) hi1 (hn1.ext hs₁.extBut D1.z) hk1 fun x o1' h₂ tk₂ hx hi1' h1₂ hs₂ => wpAny_pure ?_)
  have hTO₂ : IsPair h₂ TO a b := hs₂.extBut _ _ D.TOi1 (hs₁.extBut _ _ D.TOz hTO)
  refine wpAny_bind (wpAny_seqItems hTO₂ rfl ?_)
  refine wpAny_bind (wpAny_updateSeq_pair hTO₂ fun h₃ hTO₃ hs₃ => ?_)
  replace hTO₃ : IsPair h₃ TO x b := hTO₃
  refine wpAny_bind (wpAny_letGo (wpAny_pure ?_))
  refine wpAny_bind (wpAny_bind (wpAny_onRaise ?_))
  show wpAny _ _ (Builtin.SmallTypes.nextOf (.ref i2) >>= _) _ _ _
  refine wpAny_bind (src_item (hs₃.extBut _ _ D.TOi2.symm (hs₂.extBut _ _ D.i12.symm (hs₁.extBut _ _ D.i2z h2))) hi2 (((hn2.ext hs₁.extBut D2.z).ext hs₂.extBut D2.i1).ext hs₃.extBut D2.TO) hk2 fun y o2' h₄ tk₄ hy hi2' h2₄ hs₄ => wpAny_pure ?_)
  have hTO₄ : IsPair h₄ TO x b := hs₄.extBut _ _ D.TOi2 hTO₃
  refine wpAny_bind (wpAny_seqItems hTO₄ rfl ?_)
  refine wpAny_bind (wpAny_updateSeq_pair hTO₄ fun h₅ hTO₅ hs₅ => ?_)
  replace hTO₅ : IsPair h₅ TO x y := hTO₅
  refine wpAny_bind (wpAny_letGo (wpAny_pure (wpAny_pure ?_)))
  refine wpAny_bind (wpAny_seqItems hTO₅ rfl ?_)
  refine wpAny_bind (wpAny_newTuple ?_)
  have hsz : h₅.objs.size = s.heap.objs.size := by rw [hs₅.1, hs₄.1, hs₃.1, hs₂.1, hs₁.1]
  have hz₅ : IsZip h₅ z TI TO .ellipsis := hs₅.extBut _ _ D.TOz.symm (hs₄.extBut _ _ D.i2z.symm (hs₃.extBut _ _ D.TOz.symm (hs₂.extBut _ _ D.i1z.symm hz₁)))
  have hk₅ : ∀ c o, c ≠ z → c ≠ TO → c ≠ i1 → c ≠ i2 → s.heap.get? c = some o → h₅.get? c = some o := fun c o c1 c2 c3 c4 e =>
    hs₅.extBut _ _ c2 (hs₄.extBut _ _ c4 (hs₃.extBut _ _ c2 (hs₂.extBut _ _ c3 (hs₁.extBut _ _ c1 e))))
  have h1₅ : h₅.get? i1 = some o1' := hs₅.extBut _ _ D.TOi1.symm (hs₄.extBut _ _ D.i12 (hs₃.extBut _ _ D.TOi1.symm h1₂))
  have h2₅ : h₅.get? i2 = some o2' := hs₅.extBut _ _ D.TOi2.symm h2₄
  have hzlt : z < h₅.objs.size := Heap.lt_size hz₅
  show wpAny _ _ (Builtin.SmallTypes.ownedTupleHandOut (.ref z) (.ref h₅.objs.size) >>= _) _ _ _
  refine wpAny_bind ?_
  unfold Builtin.SmallTypes.ownedTupleHandOut
  have hz₆ : IsZip (h₅.push { cls := .type "tuple", data := .seq #[x, y] }) z TI TO .ellipsis := Heap.get?_push_of_some _ hz₅
  refine wpAny_bind (wpAny_setField_rec hz₆ (by simp) fun h₇ hz₇ hs₇ => ?_)
  replace hz₇ : IsZip h₇ z TI TO (rawInt h₅.objs.size) := hz₇
  refine wpAny_setField_rec hz₇ (by simp) fun h₈ hz₈ hs₈ => ?_
  replace hz₈ : IsZip h₈ z TI TO (rawInt h₅.objs.size) := hz₈
  have up : ∀ c o, c ≠ z → h₅.get? c = some o → h₈.get? c = some o := fun c o c1 e => hs₈.extBut _ _ c1 (hs₇.extBut _ _ c1 (Heap.get?_push_of_some _ e))
  have hT₈ : IsPair h₈ h₅.objs.size x y := hs₈.extBut _ _ (Nat.ne_of_gt hzlt) (hs₇.extBut _ _ (Nat.ne_of_gt hzlt) (Heap.get?_push_size _ rfl))
  rw [hsz] at hz₈ hT₈
  refine wpAny_pure ⟨_, rfl, ?_⟩
  show Q (.ref h₅.objs.size) _
  rw [hsz]
  exact hQ x y o1' o2' h₈ _ hx hy hz₈ (up _ _ D.TOz hTO₅) (up _ _ D.i1z h1₅) (up _ _ D.i2z h2₅) hi1' hi2' hT₈ fun c o c1 c2 c3 c4 e => up c o c1 (hk₅ c o c1 c2 c3 c4 e)
theorem zipS_end {z TI TO i1 i2 : Addr} {c1 c2 : ZSrc} {k : Nat} {o1 o2 : Obj} {a b : Value} {Q : PySem.Fin → Shared → Prop} (hh : A.handled = none) (D : ZApart z TI TO i1 i2) (D1 : ZOff c1 z TO i1 i2) (D2 : ZOff c2 z TO i1 i2)
    (hz : IsZip s.heap z TI TO .none) (hTI : IsPair s.heap TI (.ref i1) (.ref i2)) (hTO : IsPair s.heap TO a b) (h1 : s.heap.get? i1 = some o1) (h2 : s.heap.get? i2 = some o2) (hi1 : c1.Is o1 k) (hi2 : c2.Is o2 k) (hn1 : c1.In s.heap) (hn2 : c2.In s.heap) (hend : c1.size ≤ k ∨ c2.size ≤ k)
    (hE : ∀ h' e tk, (∀ c o, c ≠ z → c ≠ TO → c ≠ i1 → c ≠ i2 → s.heap.get? c = some o → h'.get? c = some o) → (∃ o, h'.get? e = some o ∧ o.cls = .type "StopIteration") → E (.ref e) { s with heap := h', toks := tk }) :
    wpAny (model prog w) A (Builtin.«zip.__next__» ⟨[.ref z], []⟩) Q E s := by
  show wpAny _ _ (field (.ref z) 2 >>= _) _ _ _
  refine wpAny_bind (wpAny_field hz rfl (x := .bool false) rfl ?_)
  show wpAny _ _ (field (.ref z) 3 >>= _) _ _ _
  refine wpAny_bind (wpAny_field hz rfl (x := .ref TI) rfl ?_)
  refine wpAny_bind (wpAny_seqItems hTI rfl ?_)
  show wpAny _ _ (Builtin.SmallTypes.ownedTupleIsFree (.ref z) >>= _) _ _ _
  refine wpAny_bind ?_
  unfold Builtin.SmallTypes.ownedTupleIsFree
  refine wpAny_bind (wpAny_field hz rfl (x := .none) rfl (wpAny_pure ?_))
  simp only [if_true]
  refine wpAny_bind (wpAny_rule ?_)
  refine wpAny_bind (wpAny_field hz rfl (x := .ref TO) rfl ?_)
  refine wpAny_bind (wpAny_setField_rec hz (by simp) fun h₁ hz₁ hs₁ => ?_)
  replace hz₁ : IsZip h₁ z TI TO .ellipsis := hz₁
  refine wpAny_bind ?_
  simp only [List.zipIdx_cons, List.zipIdx_nil, List.forIn_cons, List.forIn_nil]
  refine wpAny_bind (wpAny_bind (wpAny_onRaise ?_))
  show wpAny _ _ (Builtin.SmallTypes.nextOf (.ref i1) >>= _) _ _ _
  rcases Nat.lt_or_ge k c1.size with hx | hx
  · have hy : c2.size ≤ k := hend.resolve_left (Nat.not_le_of_lt hx)
    refine wpAny_bind (src_item (hs₁.extBut _ _ D.i1z h1) hi1 (hn1.ext hs₁.extBut D1.z) hx fun x o1' h₂ tk₂ hx hi1' h1₂ hs₂ => wpAny_pure ?_)
    have hTO₂ : IsPair h₂ TO a b := hs₂.extBut _ _ D.TOi1 (hs₁.extBut _ _ D.TOz hTO)
    refine wpAny_bind (wpAny_seqItems hTO₂ rfl ?_)
    refine wpAny_bind (wpAny_updateSeq_pair hTO₂ fun h₃ hTO₃ hs₃ => ?_)
    refine wpAny_bind (wpAny_letGo (wpAny_pure ?_))
    refine wpAny_bind (wpAny_bind (wpAny_onRaise ?_))
    show wpAny _ _ (Builtin.SmallTypes.nextOf (.ref i2) >>= _) _ _ _
    refine wpAny_bind (src_end hh (hs₃.extBut _ _ D.TOi2.symm (hs₂.extBut _ _ D.i12.symm (hs₁.extBut _ _ D.i2z h2))) hi2 (((hn2.ext hs₁.extBut D2.z).ext hs₂.extBut D2.i1).ext hs₃.extBut D2.TO) hy fun h₄ e hs₄ he => ?_)
    obtain ⟨oe, hoe, hce⟩ := he
    have hz₄ : IsZip h₄ z TI TO .ellipsis := hs₄ _ _ D.i2z.symm (hs₃.extBut _ _ D.TOz.symm (hs₂.extBut _ _ D.i1z.symm hz₁))
    have hez : e ≠ z := fun x => by subst x; rw [hz₄] at hoe; cases hoe; simp at hce
    refine wpAny_setField_rec hz₄ (by simp) fun h₅ _ hs₅ => hE h₅ e _ (fun c o c1 c2 c3 c4 x => hs₅.extBut _ _ c1 (hs₄ _ _ c4 (hs₃.extBut _ _ c2 (hs₂.extBut _ _ c3 (hs₁.extBut _ _ c1 x))))) ⟨oe, hs₅.extBut _ _ hez hoe, hce⟩
  · refine wpAny_bind (src_end hh (hs₁.extBut _ _ D.i1z h1) hi1 (hn1.ext hs₁.extBut D1.z) hx fun h₂ e hs₂ he => ?_)
    obtain ⟨oe, hoe, hce⟩ := he
    have hz₂ : IsZip h₂ z TI TO .ellipsis := hs₂ _ _ D.i1z.symm hz₁
    have hez : e ≠ z := fun x => by subst x; rw [hz₂] at hoe; cases hoe; simp at hce
    refine wpAny_setField_rec hz₂ (by simp) fun h₃ _ hs₃ => hE h₃ e _ (fun c o c1 _ c3 _ x => hs₃.extBut _ _ c1 (hs₂ _ _ c3 (hs₁.extBut _ _ c1 x))) ⟨oe, hs₃.extBut _ _ hez hoe, hce⟩
end
end Mine
end
-- G09
section
theorem Mine.resetG09 : True := by (w_top off; trivial)
open PySem PySem.W PyProof.Rows PyProof.Rows.LCg
set_option Elab.async false
set_option maxRecDepth 100000
set_option maxHeartbeats 8000000
namespace Mine
noncomputable abbrev zipObj (f0 : Value) (TI TO : Addr) : Obj := { cls := .type "zip", dict := none, data := .fields #[f0, .bool false, .bool false, .ref TI, .ref TO], slots := #[] }
noncomputable abbrev pairObj (a b : Value) : Obj := { cls := .type "tuple", data := .seq #[a, b] }
noncomputable def ZOwn (z TI TO i1 i2 : Addr) (c1 c2 : ZSrc) (i : Nat) (own : List (Addr × Obj)) : Prop :=
  ∃ a b o1 o2, own = [(z, zipObj .none TI TO), (TI, pairObj (.ref i1) (.ref i2)), (TO, pairObj a b), (i1, o1), (i2, o2)] ∧ c1.Is o1 i ∧ c2.Is o2 i
theorem zoff_of {c : ZSrc} {X : List (Addr × Obj)} {z TO i1 i2 : Addr} (hd : ∀ p ∈ c.dep, p ∈ X) (h1 : ∀ p ∈ X, p.1 ≠ z) (h2 : ∀ p ∈ X, p.1 ≠ TO) (h3 : ∀ p ∈ X, p.1 ≠ i1) (h4 : ∀ p ∈ X, p.1 ≠ i2) : ZOff c z TO i1 i2 := by
  cases c with
  | list l vs k => exact ⟨h1 _ (hd _ (.head _)), h2 _ (hd _ (.head _)), h3 _ (hd _ (.head _)), h4 _ (hd _ (.head _))⟩
  | str => exact ⟨trivial, trivial, trivial, trivial⟩
theorem zin_of {c : ZSrc} {X : List (Addr × Obj)} {h h₀ : Heap} {L : Addr} (N : News h₀ L h X) (hd : ∀ p ∈ c.dep, p ∈ X) : c.In h := by
  cases c with
  | list l vs k => exact News.isList N (hd _ (.head _))
  | str => trivial
theorem LIt.zip {prog : Program} {w : World} {A : Around} {h₀ : Heap} {L : Addr} {elts : List Expr} {k : Nat} {pos : Pos} {z TI TO i1 i2 : Addr} {c1 c2 : ZSrc} (hh : A.handled = none) (D : ZApart z TI TO i1 i2) :
    LIt prog w A h₀ L (.Tuple elts k pos) (.ref z) (min c1.size c2.size) (c1.dep ++ c2.dep) (ZOwn z TI TO i1 i2 c1 c2)
      (fun i v ext => ∃ T x y, v = .ref T ∧ ext = [(T, pairObj x y)] ∧ c1.Item i x ∧ c2.Item i y) where
  item := by
    rintro i own X s m Q E hi ⟨a, b, o1, o2, rfl, hi1, hi2⟩ F N hd off kk
    have zz := N (z, _) (.head _)
    have zTI := N (TI, _) (.tail _ (.head _))
    have zTO := N (TO, _) (.tail _ (.tail _ (.head _)))
    have z1 := N (i1, _) (.tail _ (.tail _ (.tail _ (.head _))))
    have z2 := N (i2, _) (.tail _ (.tail _ (.tail _ (.tail _ (.head _)))))
    have NX : News h₀ L s.heap X := fun p hp => N p (List.mem_append_right _ hp)
    have f1 := off (z, _) (.head _)
    have f2 := off (TI, _) (.tail _ (.head _))
    have f3 := off (TO, _) (.tail _ (.tail _ (.head _)))
    have f4 := off (i1, _) (.tail _ (.tail _ (.tail _ (.head _))))
    have f5 := off (i2, _) (.tail _ (.tail _ (.tail _ (.tail _ (.head _)))))
    have d1 : ∀ p ∈ c1.dep, p ∈ X := fun p hp => hd p (List.mem_append_left _ hp)
    have d2 : ∀ p ∈ c2.dep, p ∈ X := fun p hp => hd p (List.mem_append_right _ hp)
    have hT : s.TypeIs (.ref z) "zip" := ⟨_, zz.1, rfl⟩
    unfold pyNext
    refine wpAny_bind (wpAny_attempt (wpAny_callSpecial?_slot (name := Str.ofString "__next__") hT PySem.F.slot_zip_next
      (wpAny_call_entry PySem.F.slot_zip_next hT PySem.F.entry_zip_next
        (zipS_item D (zoff_of d1 f1 f3 f4 f5) (zoff_of d2 f1 f3 f4 f5) zz.1 zTI.1 zTO.1 z1.1 z2.1 hi1 hi2 (zin_of NX d1) (zin_of NX d2) (Nat.lt_of_lt_of_le hi (Nat.min_le_left ..)) (Nat.lt_of_lt_of_le hi (Nat.min_le_right ..)) fun x y o1' o2' h' tk hx hy a1 a2 a3 a4 a5 a6 a7 hk => wpAny_pure ⟨_, rfl, ?_⟩) (PySem.F.args_zip_next_1 _))))
    have lt : ∀ {c o}, s.heap.get? c = some o → @LT.lt Nat _ c s.heap.objs.size := fun e => Heap.lt_size e
    refine wpAny_letOwnedTupleGo_zip a1 fun h'' b1 hs => ?_
    have up : ∀ c o, c ≠ z → c ≠ TO → c ≠ i1 → c ≠ i2 → s.heap.get? c = some o → h''.get? c = some o := fun c o q1 q2 q3 q4 e => hs.extBut _ _ q1 (hk c o q1 q2 q3 q4 e)
    have n0 : ∀ {c}, h₀.get? c = none → ∀ b o, h₀.get? b = some o → b ≠ c := fun hc b o e q => by rw [q, hc] at e; cases e
    have F' : Fr h₀ L h'' m := ⟨F.ns.at' fun o e => up L o zz.2.1.symm zTO.2.1.symm z1.2.1.symm z2.2.1.symm e, fun b o e => up b o (n0 zz.2.2 b o e) (n0 zTO.2.2 b o e) (n0 z1.2.2 b o e) (n0 z2.2.2 b o e) (F.keep b o e), F.above⟩
    refine kk _ [(s.heap.objs.size, pairObj x y)] [(z, zipObj .none TI TO), (TI, pairObj (.ref i1) (.ref i2)), (TO, pairObj x y), (i1, o1'), (i2, o2')] h'' tk ⟨_, x, y, rfl, rfl, hx, hy⟩ ⟨x, y, o1', o2', rfl, a5, a6⟩ F' ?_ ?_ ?_
    · intro p hp
      rcases List.mem_cons.mp hp with rfl | hp
      · exact ⟨hs.extBut _ _ (Nat.ne_of_gt (lt zz.1)) a7, Nat.ne_of_gt F.ns.lt, next_is_new F⟩
      have hp2 : p ∈ [(z, zipObj .none TI TO), (TI, pairObj (.ref i1) (.ref i2)), (TO, pairObj x y), (i1, o1'), (i2, o2')] ++ X := hp
      clear hp
      rcases List.mem_append.mp hp2 with hp | hp
      · simp only [List.mem_cons, List.not_mem_nil, or_false] at hp
        rcases hp with rfl | rfl | rfl | rfl | rfl
        · exact ⟨b1, zz.2⟩
        · exact ⟨up _ _ D.TIz D.TITO D.TIi1 D.TIi2 zTI.1, zTI.2⟩
        · exact ⟨hs.extBut _ _ D.TOz a2, zTO.2⟩
        · exact ⟨hs.extBut _ _ D.i1z a3, z1.2⟩
        · exact ⟨hs.extBut _ _ D.i2z a4, z2.2⟩
      · exact ⟨up _ _ (f1 p hp) (f3 p hp) (f4 p hp) (f5 p hp) (NX p hp).1, (NX p hp).2⟩
    · intro q hq p hp
      simp only [List.mem_cons, List.not_mem_nil, or_false] at hq
      rcases hq with rfl | rfl | rfl | rfl | rfl
      · exact f1 p hp
      · exact f2 p hp
      · exact f3 p hp
      · exact f4 p hp
      · exact f5 p hp
    · intro e he p hp
      rw [List.mem_singleton.mp he]
      rcases List.mem_append.mp hp with hp | hp
      · simp only [List.mem_cons, List.not_mem_nil, or_false] at hp
        rcases hp with rfl | rfl | rfl | rfl | rfl
        · exact lt zz.1
        · exact lt zTI.1
        · exact lt zTO.1
        · exact lt z1.1
        · exact lt z2.1
      · exact lt (NX p hp).1
  done := by
    rintro own X s m Q E ⟨a, b, o1, o2, rfl, hi1, hi2⟩ F N hd off kk
    have zz := N (z, _) (.head _)
    have zTI := N (TI, _) (.tail _ (.head _))
    have zTO := N (TO, _) (.tail _ (.tail _ (.head _)))
    have z1 := N (i1, _) (.tail _ (.tail _ (.tail _ (.head _))))
    have z2 := N (i2, _) (.tail _ (.tail _ (.tail _ (.tail _ (.head _)))))
    have NX : News h₀ L s.heap X := fun p hp => N p (List.mem_append_right _ hp)
    have f1 := off (z, _) (.head _)
    have f3 := off (TO, _) (.tail _ (.tail _ (.head _)))
    have f4 := off (i1, _) (.tail _ (.tail _ (.tail _ (.head _))))
    have f5 := off (i2, _) (.tail _ (.tail _ (.tail _ (.tail _ (.head _)))))
    have d1 : ∀ p ∈ c1.dep, p ∈ X := fun p hp => hd p (List.mem_append_left _ hp)
    have d2 : ∀ p ∈ c2.dep, p ∈ X := fun p hp => hd p (List.mem_append_right _ hp)
    have hT : s.TypeIs (.ref z) "zip" := ⟨_, zz.1, rfl⟩
    have hend : c1.size ≤ min c1.size c2.size ∨ c2.size ≤ min c1.size c2.size := by omega
    have n0 : ∀ {c}, h₀.get? c = none → ∀ b o, h₀.get? b = some o → b ≠ c := fun hc b o e q => by rw [q, hc] at e; cases e
    unfold pyNext
    refine wpAny_bind (wpAny_attempt (wpAny_callSpecial?_slot (name := Str.ofString "__next__") hT PySem.F.slot_zip_next
      (wpAny_call_entry PySem.F.slot_zip_next hT PySem.F.entry_zip_next (zipS_end hh D (zoff_of d1 f1 f3 f4 f5) (zoff_of d2 f1 f3 f4 f5) zz.1 zTI.1 zTO.1 z1.1 z2.1 hi1 hi2 (zin_of NX d1) (zin_of NX d2) hend fun h' e tk hk he => ?_) (PySem.F.args_zip_next_1 _))))
    obtain ⟨o, ho, hc⟩ := he
    refine wpAny_bind (wpAny_isInstance (T := "StopIteration") (b := true) ⟨o, ho, hc⟩ isSubtype_stop ?_)
    refine wpAny_pure (kk h' tk ⟨F.ns.at' fun o e => hk L o zz.2.1.symm zTO.2.1.symm z1.2.1.symm z2.2.1.symm e, fun b o e => hk b o (n0 zz.2.2 b o e) (n0 zTO.2.2 b o e) (n0 z1.2.2 b o e) (n0 z2.2.2 b o e) (F.keep b o e), F.above⟩ fun p hp => ?_)
    exact ⟨hk _ _ (f1 p hp) (f3 p hp) (f4 p hp) (f5 p hp) (NX p hp).1, (NX p hp).2⟩
  self := by
    rintro i own X s Q E ⟨a, b, o1, o2, rfl, hi1, hi2⟩ N k
    exact wpAny_pyIter_zip (N _ (.head _)).1 k
end Mine
end
-- G10
section
theorem Mine.resetG10 : True := by (w_top off; trivial)
open PySem PySem.W PyProof.Rows PyProof.Rows.LCg
set_option Elab.async false
set_option maxRecDepth 100000
set_option maxHeartbeats 8000000
namespace Mine
/-- where a turn of a comprehension's loop ends -/
inductive TEnd (h₀ : Heap) (L : Addr) (m : Str → Option Value) (s : Shared) (dep own : List (Addr × Obj)) (C D : Addr) (ys : List Value) (J : List Value → (Str → Option Value) → List (Addr × Obj) → Prop) (xo : Option Value) (s₅ : Shared) : Prop
  | mk : ∀ (h' : Heap) (tk : Nat) (oC' : Obj) (m₂' : Str → Option Value) (all X' : List (Addr × Obj)), s₅ = { s with heap := h', toks := tk } → Fr h₀ L h' m → News h₀ L h' all → (C, oC') ∈ all → (D, lst ys) ∈ all → (∀ p ∈ X', p ∈ all) → (∀ p ∈ own, p ∈ all) → NsObj oC' m₂' → (∀ p ∈ dep, p ∈ X') →
    (∀ p ∈ X', p.1 ≠ C ∧ p.1 ≠ D) → (∀ q ∈ own, ∀ p ∈ X', p.1 ≠ q.1) → J (ys ++ xo.toList) m₂' X' → TEnd h₀ L m s dep own C D ys J xo s₅
theorem TEnd.intro {h₀ h' : Heap} {L : Addr} {m : Str → Option Value} {s : Shared} {dep own : List (Addr × Obj)} {C D : Addr} {ys : List Value} {J : List Value → (Str → Option Value) → List (Addr × Obj) → Prop} {xo : Option Value} {tk : Nat} {oC' : Obj} {m₂' : Str → Option Value} {all : List (Addr × Obj)} (X' : List (Addr × Obj))
    (F : Fr h₀ L h' m) (N : News h₀ L h' all) (hC : (C, oC') ∈ all) (hD : (D, lst ys) ∈ all) (hX : ∀ p ∈ X', p ∈ all) (ho : ∀ p ∈ own, p ∈ all) (hm : NsObj oC' m₂') (hd : ∀ p ∈ dep, p ∈ X') (hCD : ∀ p ∈ X', p.1 ≠ C ∧ p.1 ≠ D) (off : ∀ q ∈ own, ∀ p ∈ X', p.1 ≠ q.1) (hJ : J (ys ++ xo.toList) m₂' X') :
    TEnd h₀ L m s dep own C D ys J xo { s with heap := h', toks := tk } := ⟨h', tk, oC', m₂', all, X', rfl, F, N, hC, hD, hX, ho, hm, hd, hCD, off, hJ⟩
/-- the same behind a loop within the turn: the list has grown -/
noncomputable def MEnd (h₀ : Heap) (L : Addr) (m : Str → Option Value) (s : Shared) (dep own : List (Addr × Obj)) (C D : Addr) (J : List Value → (Str → Option Value) → List (Addr × Obj) → Prop) (r : Result) (s₅ : Shared) : Prop :=
  (∃ f, r = .ok f) ∧ ∃ ys, TEnd h₀ L m s dep own C D ys J none s₅
inductive CInv (h₀ : Heap) (L : Addr) (m : Str → Option Value) (s : Shared) (dep : List (Addr × Obj)) (Own : Nat → List (Addr × Obj) → Prop) (n : Nat) (C D : Addr) (K : Nat → List Value → (Str → Option Value) → List (Addr × Obj) → Prop) (k : Nat) (s' : Shared) : Prop
  | mk : ∀ (i : Nat) (h : Heap) (tk : Nat) (ys : List Value) (m₂ : Str → Option Value) (X own : List (Addr × Obj)) (oC : Obj), k = n - i → i ≤ n → s' = { s with heap := h, toks := tk } → Fr h₀ L h m → News h₀ L h ((C, oC) :: (D, lst ys) :: (own ++ X)) → NsObj oC m₂ → Own i own → (∀ p ∈ dep, p ∈ X) →
    (∀ q ∈ own, ∀ p ∈ X, p.1 ≠ q.1) → (∀ p ∈ X, p.1 ≠ C ∧ p.1 ≠ D) → (∀ q ∈ own, q.1 ≠ C ∧ q.1 ≠ D) → K i ys m₂ X → CInv h₀ L m s dep Own n C D K k s'
inductive CItm (h₀ : Heap) (L : Addr) (m : Str → Option Value) (s : Shared) (i : Nat) (own X : List (Addr × Obj)) (C D : Addr) (oC : Obj) (ys : List Value) (Own : Nat → List (Addr × Obj) → Prop) (P : Nat → Value → List (Addr × Obj) → Prop) (v : Value) (s₂ : Shared) : Prop
  | mk : ∀ (ext own' : List (Addr × Obj)) (h' : Heap) (tk' : Nat), P i v ext → Own (i + 1) own' → Fr h₀ L h' m → News h₀ L h' (ext ++ (own' ++ ((C, oC) :: (D, lst ys) :: X))) → (∀ q ∈ own', ∀ p ∈ ((C, oC) :: (D, lst ys) :: X), p.1 ≠ q.1) → (∀ e ∈ ext, ∀ p ∈ own' ++ ((C, oC) :: (D, lst ys) :: X), p.1 < e.1) → s₂ = { s with heap := h', toks := tk' } → CItm h₀ L m s i own X C D oC ys Own P v s₂
section
variable {h₀ h : Heap} {L : Addr} {a b : Addr × Obj} {ext own X : List (Addr × Obj)}
theorem cb_sub {p : Addr × Obj} (hp : p ∈ a :: b :: (X ++ own)) : p ∈ own ++ (a :: b :: X) := by
  rcases List.mem_cons.mp hp with rfl | hp
  · exact List.mem_append_right _ (.head _)
  · rcases List.mem_cons.mp hp with rfl | hp
    · exact List.mem_append_right _ (.tail _ (.head _))
    · rcases List.mem_append.mp hp with hp | hp
      · exact List.mem_append_right _ (.tail _ (.tail _ hp))
      · exact List.mem_append_left _ hp
theorem cb_own (N : News h₀ L h (a :: b :: (own ++ X))) : News h₀ L h (own ++ (a :: b :: X)) := fun p hp => N p (by
  rcases List.mem_append.mp hp with hp | hp
  · exact .tail _ (.tail _ (List.mem_append_left _ hp))
  · rcases List.mem_cons.mp hp with rfl | hp
    · exact .head _
    · rcases List.mem_cons.mp hp with rfl | hp
      · exact .tail _ (.head _)
      · exact .tail _ (.tail _ (List.mem_append_right _ hp)))
theorem cb_ext (N : News h₀ L h (ext ++ (own ++ (a :: b :: X)))) : News h₀ L h (a :: b :: (ext ++ (X ++ own))) := fun p hp => N p (by
  rcases List.mem_cons.mp hp with rfl | hp
  · exact List.mem_append_right _ (cb_sub (.head _))
  · rcases List.mem_cons.mp hp with rfl | hp
    · exact List.mem_append_right _ (cb_sub (.tail _ (.head _)))
    · rcases List.mem_append.mp hp with hp | hp
      · exact List.mem_append_left _ hp
      · exact List.mem_append_right _ (cb_sub (.tail _ (.tail _ hp))))
theorem cb_fin {all : List (Addr × Obj)} (N : News h₀ L h all) (ha : a ∈ all) (hb : b ∈ all) (hX : ∀ p ∈ X, p ∈ all) (ho : ∀ p ∈ own, p ∈ all) : News h₀ L h (a :: b :: (own ++ X)) := fun p hp => by
  rcases List.mem_cons.mp hp with rfl | hp
  · exact N _ ha
  · rcases List.mem_cons.mp hp with rfl | hp
    · exact N _ hb
    · rcases List.mem_append.mp hp with hp | hp
      · exact N _ (ho p hp)
      · exact N _ (hX p hp)
theorem cb_dep {dep : List (Addr × Obj)} (hd : ∀ p ∈ dep, p ∈ X) : ∀ p ∈ dep, p ∈ a :: b :: X := fun p hp => .tail _ (.tail _ (hd p hp))
theorem cb_off {C D : Addr} {oC oD : Obj} (hoC : ∀ q ∈ own, q.1 ≠ C ∧ q.1 ≠ D) (off : ∀ q ∈ own, ∀ p ∈ X, p.1 ≠ q.1) : ∀ q ∈ own, ∀ p ∈ (C, oC) :: (D, oD) :: X, p.1 ≠ q.1 := fun q hq p hp => by
  rcases List.mem_cons.mp hp with rfl | hp
  · exact (hoC q hq).1.symm
  · rcases List.mem_cons.mp hp with rfl | hp
    · exact (hoC q hq).2.symm
    · exact off q hq p hp
theorem cb_ho {C D : Addr} {oC oD : Obj} (off : ∀ q ∈ own, ∀ p ∈ (C, oC) :: (D, oD) :: X, p.1 ≠ q.1) : ∀ q ∈ own, q.1 ≠ C ∧ q.1 ≠ D := fun q hq => ⟨(off q hq _ (.head _)).symm, (off q hq _ (.tail _ (.head _))).symm⟩
end
theorem ite_both {ok : Bool} {A B A' B' : Prop} (h : if ok = true then A else B) (ht : A → A') (hf : B → B') : if ok = true then A' else B' := by
  cases ok
  · exact hf h
  · exact ht h
theorem opt_nil {α : Type} (ys : List α) : ys ++ (none : Option α).toList = ys := List.append_nil ys
theorem tnil {prog : Program} {w : World} {A : Around} {env : Env} {X Y : Shared → Prop} {E : Value → Shared → Prop} {s : Shared} (h : X s) : wpAny (model prog w) A (testsOf [] env) (fun ok s₄ => if ok = true then X s₄ else Y s₄) E s := wpAny_tests_nil (Q := fun ok s₄ => if ok = true then X s₄ else Y s₄) h
section
variable {prog : Program} {w : World} {A : Around} {s : Shared} {env : Env} {R : Result → Shared → Prop} {h₀ : Heap} {L : Addr} {m : Str → Option Value}
variable {elt : Expr} {gens : List Comprehension} {scope : Scope} {cl : List (Str × Addr)} {pos : Pos} {d : Nat} {it : Value} {target iter : Expr} {ifs : List Expr} {C D : Addr} {n : Nat} {dep : List (Addr × Obj)} {Own : Nat → List (Addr × Obj) → Prop} {P : Nat → Value → List (Addr × Obj) → Prop}
theorem compIt_last (hg : gens[d]? = some ⟨target, iter, ifs, 0⟩) (hg' : gens[d + 1]? = none) (I : LIt prog w A h₀ L target it n dep Own P) (K : Nat → List Value → (Str → Option Value) → List (Addr × Obj) → Prop)
    {ys₀ : List Value} {m₂₀ : Str → Option Value} {X₀ own₀ : List (Addr × Obj)} {oC₀ : Obj} (F₀ : Fr h₀ L s.heap m) (N₀ : News h₀ L s.heap ((C, oC₀) :: (D, lst ys₀) :: (own₀ ++ X₀))) (hC₀ : NsObj oC₀ m₂₀) (hO₀ : Own 0 own₀) (hd₀ : ∀ p ∈ dep, p ∈ X₀)
    (off₀ : ∀ q ∈ own₀, ∀ p ∈ X₀, p.1 ≠ q.1) (hX₀ : ∀ p ∈ X₀, p.1 ≠ C ∧ p.1 ≠ D) (hoC₀ : ∀ q ∈ own₀, q.1 ≠ C ∧ q.1 ≠ D) (hCD : @Ne Nat C D) (hK₀ : K 0 ys₀ m₂₀ X₀) (hsz : ∀ i ys m₂ X, K i ys m₂ X → ys.length ≤ 100000)
    (turn : ∀ i v ext ys m₂ X own oC h tk (E' : Value → Shared → Prop), i < n → P i v ext → K i ys m₂ X → NsObj oC m₂ → Fr h₀ L h m → News h₀ L h ((C, oC) :: (D, lst ys) :: (ext ++ (X ++ own))) → (∀ p ∈ dep, p ∈ X) → (∀ p ∈ X, p.1 ≠ C ∧ p.1 ≠ D) → (∀ q ∈ own, q.1 ≠ C ∧ q.1 ≠ D) → (∀ q ∈ own, ∀ p ∈ X, p.1 ≠ q.1) →
      (∀ e ∈ ext, ∀ p ∈ (C, oC) :: (D, lst ys) :: (X ++ own), p.1 < e.1) →
      wpAny (model prog w) A (assign target (compEnvC scope cl C env) v) (fun _ s₃ => wpAny (model prog w) A (testsOf ifs (compEnvC scope cl C env)) (fun ok s₄ => if ok = true then
          wpAny (model prog w) A (eval elt (compEnvC scope cl C env)) (fun x s₅ => TEnd h₀ L m s dep own C D ys (K (i + 1)) (some x) s₅) E' s₄
        else TEnd h₀ L m s dep own C D ys (K (i + 1)) none s₄) E' s₃) E' { s with heap := h, toks := tk })
    (done : ∀ ys m₂ X oC h tk, K n ys m₂ X → NsObj oC m₂ → Fr h₀ L h m → News h₀ L h ((C, oC) :: (D, lst ys) :: X) → (∀ p ∈ X, p.1 ≠ C ∧ p.1 ≠ D) → R (.ok .next) { s with heap := h, toks := tk }) :
    codeAny (model prog w) A (.compLoop (.ListComp elt gens scope pos) d it (.ref D) (compEnvC scope cl C env)) R s := by
  k_with_none
  k_with "om" => with_reducible first | exact Mine.om498 (by assumption) | fail
  refine comp_last hg hg' (CInv h₀ L m s dep Own n C D K) ?_ n ⟨0, s.heap, s.toks, ys₀, m₂₀, X₀, own₀, oC₀, rfl, Nat.zero_le _, rfl, F₀, N₀, hC₀, hO₀, hd₀, off₀, hX₀, hoC₀, hK₀⟩
  intro k s' hI
  refine letQ ?_; intro Q1
  obtain ⟨i, h, tk, ys, m₂, X, own, oC, hk, hin, rfl, F, N, hC, hO, hd, off, hX, hoC, hK⟩ := hI
  rcases Nat.lt_or_ge i n with hi | hi
  · refine wpAny_mono (I.item i own _ _ m (fun v s₂ => CItm h₀ L m s i own X C D oC ys Own P v s₂) _ hi hO F (cb_own N) (cb_dep hd) (cb_off hoC off) fun v ext own' h' tk' a1 a2 a3 a4 a5 a6 => ⟨ext, own', h', tk', a1, a2, a3, a4, a5, a6, rfl⟩) (fun r s₁ h₁ => ?_) fun _ _ e => e
    obtain ⟨v, rfl, h₁⟩ := h₁
    refine wpAny_mono h₁ (fun _ s₂ h₂ => ?_) fun _ _ e => e
    refine letQ ?_; intro Q2
    obtain ⟨ext, own', h', tk', hP, hO', F', N2, off2, hlt, rfl⟩ := h₂
    have ho' := cb_ho off2
    refine wpAny_mono (turn i v ext ys m₂ X own' oC h' tk' _ hi hP hK hC F' (cb_ext N2) hd hX ho' (fun q hq p hp => off2 q hq p (.tail _ (.tail _ hp))) (fun e he p hp => hlt e he p (cb_sub hp))) (fun _ s₃ h₃ => wpAny_mono h₃ (fun ok s₄ h₄ => ?_) fun _ _ e => e) fun _ _ e => e
    refine ite_both h₄ (fun h₅ => ?_) (fun h₅ => ?_)
    · refine wpAny_mono h₅ (fun x s₅ h₅ => ?_) fun _ _ e => e
      refine letQ ?_; intro Q3
      obtain ⟨h5, tk5, oC', m₂', all, X', rfl, F5, N5, hC5, hD5, hX5, ho5, hm5, hd5, hCD5, off5, hK5⟩ := h₅
      refine append_K (its := ys.toArray) (n := ys.length) (s := { s with heap := h5, toks := tk5 }) (news' := (C, oC') :: (D, lst (ys ++ [x])) :: (own' ++ X')) F5 (cb_fin N5 hC5 hD5 hX5 ho5) ?_ (fun h6 F6 N6 => ?_) (by rw [List.size_toArray, sizeLine_eq]; have := hsz _ _ _ _ hK; omega)
      · rw [← lst_snoc]
        refine Upd.tail hCD (Upd.head fun p hp => ?_)
        rcases List.mem_append.mp hp with hp | hp
        · exact (ho' p hp).2
        · exact (hCD5 p hp).2
      · exact ⟨n - (i + 1), hk ▸ Nat.sub_succ_lt_self n i hi, i + 1, h6, tk5, ys ++ [x], m₂', X', own', oC', rfl, hi, rfl, F6, N6, hm5, hO', hd5, off5, hCD5, ho', hK5⟩
    · obtain ⟨h5, tk5, oC', m₂', all, X', rfl, F5, N5, hC5, hD5, hX5, ho5, hm5, hd5, hCD5, off5, hK5⟩ := h₅
      exact ⟨n - (i + 1), hk ▸ Nat.sub_succ_lt_self n i hi, i + 1, h5, tk5, ys, m₂', X', own', oC', rfl, hi, rfl, F5, cb_fin N5 hC5 hD5 hX5 ho5, hm5, hO', hd5, off5, hCD5, ho', opt_nil ys ▸ hK5⟩
  · obtain rfl : i = n := Nat.le_antisymm hin hi
    refine I.done own _ _ m _ _ hO F (cb_own N) (cb_dep hd) (cb_off hoC off) fun h' tk' F' N2 => ?_
    exact done ys m₂ X oC h' tk' hK hC F' N2 hX
theorem compIt_more {target' iter' : Expr} {ifs' : List Expr} (hg : gens[d]? = some ⟨target, iter, [], 0⟩) (hg' : gens[d + 1]? = some ⟨target', iter', ifs', 0⟩) (hs : ∀ x, foldedSetIterable iter' (compEnvC scope cl C env) x = pure x) (I : LIt prog w A h₀ L target it n dep Own P) (K : Nat → List Value → (Str → Option Value) → List (Addr × Obj) → Prop)
    {ys₀ : List Value} {m₂₀ : Str → Option Value} {X₀ own₀ : List (Addr × Obj)} {oC₀ : Obj} (F₀ : Fr h₀ L s.heap m) (N₀ : News h₀ L s.heap ((C, oC₀) :: (D, lst ys₀) :: (own₀ ++ X₀))) (hC₀ : NsObj oC₀ m₂₀) (hO₀ : Own 0 own₀) (hd₀ : ∀ p ∈ dep, p ∈ X₀)
    (off₀ : ∀ q ∈ own₀, ∀ p ∈ X₀, p.1 ≠ q.1) (hX₀ : ∀ p ∈ X₀, p.1 ≠ C ∧ p.1 ≠ D) (hoC₀ : ∀ q ∈ own₀, q.1 ≠ C ∧ q.1 ≠ D) (hK₀ : K 0 ys₀ m₂₀ X₀)
    (turn : ∀ i v ext ys m₂ X own oC h tk (E' : Value → Shared → Prop), i < n → P i v ext → K i ys m₂ X → NsObj oC m₂ → Fr h₀ L h m → News h₀ L h ((C, oC) :: (D, lst ys) :: (ext ++ (X ++ own))) → (∀ p ∈ dep, p ∈ X) → (∀ p ∈ X, p.1 ≠ C ∧ p.1 ≠ D) → (∀ q ∈ own, q.1 ≠ C ∧ q.1 ≠ D) → (∀ q ∈ own, ∀ p ∈ X, p.1 ≠ q.1) →
      (∀ e ∈ ext, ∀ p ∈ (C, oC) :: (D, lst ys) :: (X ++ own), p.1 < e.1) →
      wpAny (model prog w) A (assign target (compEnvC scope cl C env) v) (fun _ s₃ => 
          wpAny (model prog w) A (eval iter' (compEnvC scope cl C env)) (fun x s₅ => wpAny (model prog w) A (pyIter x) (fun it' s₆ => codeAny (model prog w) A (.compStart (.ListComp elt gens scope pos) (d + 1) it' (.ref D) (compEnvC scope cl C env)) (MEnd h₀ L m s dep own C D (K (i + 1))) s₆) E' s₅) E' s₃) E' { s with heap := h, toks := tk })
    (done : ∀ ys m₂ X oC h tk, K n ys m₂ X → NsObj oC m₂ → Fr h₀ L h m → News h₀ L h ((C, oC) :: (D, lst ys) :: X) → (∀ p ∈ X, p.1 ≠ C ∧ p.1 ≠ D) → R (.ok .next) { s with heap := h, toks := tk }) :
    codeAny (model prog w) A (.compLoop (.ListComp elt gens scope pos) d it (.ref D) (compEnvC scope cl C env)) R s := by
  refine comp_more hg hg' hs (CInv h₀ L m s dep Own n C D K) ?_ n ⟨0, s.heap, s.toks, ys₀, m₂₀, X₀, own₀, oC₀, rfl, Nat.zero_le _, rfl, F₀, N₀, hC₀, hO₀, hd₀, off₀, hX₀, hoC₀, hK₀⟩
  intro k s' hI
  refine letQ ?_; intro Q1
  obtain ⟨i, h, tk, ys, m₂, X, own, oC, hk, hin, rfl, F, N, hC, hO, hd, off, hX, hoC, hK⟩ := hI
  rcases Nat.lt_or_ge i n with hi | hi
  · refine wpAny_mono (I.item i own _ _ m (fun v s₂ => CItm h₀ L m s i own X C D oC ys Own P v s₂) _ hi hO F (cb_own N) (cb_dep hd) (cb_off hoC off) fun v ext own' h' tk' a1 a2 a3 a4 a5 a6 => ⟨ext, own', h', tk', a1, a2, a3, a4, a5, a6, rfl⟩) (fun r s₁ h₁ => ?_) fun _ _ e => e
    obtain ⟨v, rfl, h₁⟩ := h₁
    refine wpAny_mono h₁ (fun _ s₂ h₂ => ?_) fun _ _ e => e
    refine letQ ?_; intro Q2
    obtain ⟨ext, own', h', tk', hP, hO', F', N2, off2, hlt, rfl⟩ := h₂
    have ho' := cb_ho off2
    refine wpAny_mono (turn i v ext ys m₂ X own' oC h' tk' _ hi hP hK hC F' (cb_ext N2) hd hX ho' (fun q hq p hp => off2 q hq p (.tail _ (.tail _ hp))) (fun e he p hp => hlt e he p (cb_sub hp))) (fun _ s₃ h₃ => tnil ?_) fun _ _ e => e
    refine wpAny_mono h₃ (fun x s₅ h₅ => wpAny_mono h₅ (fun it' s₆ h₆ => codeAny_mono h₆ fun r s₇ h₇ => ?_) fun _ _ e => e) fun _ _ e => e
    obtain ⟨⟨f, rfl⟩, ys', h5, tk5, oC', m₂', all, X', rfl, F5, N5, hC5, hD5, hX5, ho5, hm5, hd5, hCD5, off5, hK5⟩ := h₇
    exact ⟨n - (i + 1), hk ▸ Nat.sub_succ_lt_self n i hi, i + 1, h5, tk5, ys', m₂', X', own', oC', rfl, hi, rfl, F5, cb_fin N5 hC5 hD5 hX5 ho5, hm5, hO', hd5, off5, hCD5, ho', opt_nil ys' ▸ hK5⟩
  · obtain rfl : i = n := Nat.le_antisymm hin hi
    refine I.done own _ _ m _ _ hO F (cb_own N) (cb_dep hd) (cb_off hoC off) fun h' tk' F' N2 => ?_
    exact done ys m₂ X oC h' tk' hK hC F' N2 hX
/-- a loop's start at any depth -/
theorem compIt_start {own X : List (Addr × Obj)} (hg : gens[d]? = some ⟨target, iter, ifs, 0⟩) (I : LIt prog w A h₀ L target it n dep Own P) (N : News h₀ L s.heap (own ++ X)) (hO : Own 0 own)
    (h : codeAny (model prog w) A (.compLoop (.ListComp elt gens scope pos) d it (.ref D) (compEnvC scope cl C env)) R s) : codeAny (model prog w) A (.compStart (.ListComp elt gens scope pos) d it (.ref D) (compEnvC scope cl C env)) R s :=
  comp_start hg h (I.self 0 own X s _ _ hO N h)
end
end Mine
end
-- G11
section
theorem Mine.resetG11 : True := by (w_top off; trivial)
open PySem PySem.W PyProof.Rows PyProof.Rows.LCg
set_option Elab.async false
set_option maxRecDepth 100000
set_option maxHeartbeats 8000000
namespace Mine
noncomputable def ZSrc.val : ZSrc → Value
  | .list l _ _ => .ref l
  | .str x t => .str x t
noncomputable def ZSrc.iter0 : ZSrc → Obj
  | .list l _ _ => { cls := .type "list_iterator", data := .fields #[.ref l, .int 0 0] }
  | .str x t => { cls := .type "str_ascii_iterator", data := .fields #[.str x t, .int 0 0] }
noncomputable def ZSrc.Ok : ZSrc → Prop
  | .list _ _ _ => True
  | .str x _ => x.cps.all (· < 128) = true
theorem ZSrc.iter0_is (c : ZSrc) : c.Is c.iter0 0 := by
  cases c <;> exact ⟨rfl, rfl⟩
theorem ZSrc.iter0_free (c : ZSrc) : c.iter0.isFreed = false := by
  cases c <;> rfl
section
variable {prog : Program} {w : World} {A : Around} {E : Value → Shared → Prop} {s : Shared}
theorem pyIter_src {c : ZSrc} {Q : Value → Shared → Prop} (hc : c.In s.heap) (ho : c.Ok) (h : Q (.ref s.heap.objs.size) { s with heap := s.heap.push c.iter0 }) : wpAny (model prog w) A (pyIter c.val) Q E s := by
  cases c with
  | list l vs k => exact wpAny_pyIter_list hc h
  | str x t => exact wpAny_pyIter_ascii ho h
theorem ZSrc.In.push {c : ZSrc} {h : Heap} (x : c.In h) (o : Obj) : c.In (h.push o) := by
  cases c with
  | list l vs k => exact Heap.IsList.push x o
  | str => trivial
noncomputable abbrev zH1 (h : Heap) (c1 : ZSrc) : Heap := h.push c1.iter0
noncomputable abbrev zH2 (h : Heap) (c1 c2 : ZSrc) : Heap := (zH1 h c1).push c2.iter0
noncomputable abbrev zH3 (h : Heap) (c1 c2 : ZSrc) : Heap := (zH2 h c1 c2).push { cls := .type "tuple", data := .seq #[.ref h.objs.size, .ref (zH1 h c1).objs.size] }
noncomputable abbrev zH4 (h : Heap) (c1 c2 : ZSrc) : Heap := (zH3 h c1 c2).push { cls := .type "tuple", data := .seq #[.none, .none] }
noncomputable abbrev zH5 (h : Heap) (c1 c2 : ZSrc) : Heap := (zH4 h c1 c2).push { cls := .type "zip", data := .fields #[.none, .bool false, .bool false, .ref (zH2 h c1 c2).objs.size, .ref (zH3 h c1 c2).objs.size] }
theorem meets_zipS (c1 c2 : ZSrc) :
    Meets (Builtin.«zip.__new__» ⟨[.type "zip", c1.val, c2.val], []⟩) (fun _ R s => c1.In s.heap ∧ c2.In s.heap ∧ c1.Ok ∧ c2.Ok ∧
      R (.ok (.ret (.ref (zH4 s.heap c1 c2).objs.size))) { s with heap := zH5 s.heap c1 c2 }) :=
  .of_wp fun prog w A R s h => by
    obtain ⟨hp, g, d, tk, os⟩ := s; obtain ⟨hl1, hl2, ho1, ho2, h⟩ := h
    have hsub := sub_zip
    have hL1 : ZSrc.In c1 (Shared.heap ⟨hp, g, d, tk, os⟩) := hl1
    have hL2 : ZSrc.In c2 (Shared.heap ⟨hp.push c1.iter0, g, d, tk, os⟩) := hl2.push _
    wp_walk using pyIter_src hL1 ho1, pyIter_src hL2 ho2
    exact ⟨_, rfl, h⟩
theorem zip_K {c1 c2 : ZSrc} {h₀ : Heap} {L : Addr} {m : Str → Option Value} {news : List (Addr × Obj)} {Q : Value → Shared → Prop} (F : Fr h₀ L s.heap m) (N : News h₀ L s.heap news) (hd1 : ∀ p ∈ c1.dep, p ∈ news) (hd2 : ∀ p ∈ c2.dep, p ∈ news) (ho1 : c1.Ok) (ho2 : c2.Ok)
    (h : ∀ z TI TO i1 i2 own h', ZApart z TI TO i1 i2 → ZOwn z TI TO i1 i2 c1 c2 0 own → Fr h₀ L h' m → News h₀ L h' (own ++ news) → (∀ q ∈ own, ∀ p ∈ news, p.1 < q.1) → Q (.ref z) { s with heap := h' }) :
    wpAny (model prog w) A (call (.type "zip") [c1.val, c2.val]) Q E s := by
  k_with_none
  k_with "om" => with_reducible first | exact Mine.om186 (by assumption) (by assumption) | exact Mine.om230 (by assumption) (by assumption) | exact Mine.om232 (by assumption) (by assumption) | exact Mine.om240 (by assumption) (by assumption) | exact Mine.om480 | exact Mine.om479 | exact Mine.om481 | exact Mine.om483 | exact Mine.om482 | exact Mine.om484 | exact Mine.om506 | exact Mine.om508 | exact Mine.om507 | exact Mine.om511 | fail
  refine callType_new PySem.F.called_zip (by decide) (PySem.F.typeCall_zip_2 _ _) (PySem.F.newCall_zip_2 _ _) (fun obj => PySem.F.args_object_init_3 obj _ _) PySem.F.entry_zip_new
    (meets_zipS c1 c2) ⟨zin_of N hd1, zin_of N hd2, ho1, ho2, ?_⟩
  have F1 : Fr h₀ L (zH1 s.heap c1) m := F.push _
  have N1 : News h₀ L (zH1 s.heap c1) ((s.heap.objs.size, c1.iter0) :: news) := N.push F _ c1.iter0_free
  have F2 : Fr h₀ L (zH2 s.heap c1 c2) m := F1.push _
  have N2 : News h₀ L (zH2 s.heap c1 c2) (((zH1 s.heap c1).objs.size, c2.iter0) :: (s.heap.objs.size, c1.iter0) :: news) := N1.push F1 _ c2.iter0_free
  have F3 : Fr h₀ L (zH3 s.heap c1 c2) m := F2.push _
  have N3 := N2.push F2 { cls := .type "tuple", data := .seq #[.ref s.heap.objs.size, .ref (zH1 s.heap c1).objs.size] }
  have F4 : Fr h₀ L (zH4 s.heap c1 c2) m := F3.push _
  have N4 := N3.push F3 { cls := .type "tuple", data := .seq #[.none, .none] }
  have F5 : Fr h₀ L (zH5 s.heap c1 c2) m := F4.push _
  have N5 := N4.push F4 { cls := .type "zip", data := .fields #[.none, .bool false, .bool false, .ref (zH2 s.heap c1 c2).objs.size, .ref (zH3 s.heap c1 c2).objs.size] }
  have z1 : (zH1 s.heap c1).objs.size = s.heap.objs.size + 1 := Heap.size_push ..
  have z2 : (zH2 s.heap c1 c2).objs.size = s.heap.objs.size + 2 := by rw [Heap.size_push, z1]
  have z3 : (zH3 s.heap c1 c2).objs.size = s.heap.objs.size + 3 := by rw [Heap.size_push, z2]
  have z4 : (zH4 s.heap c1 c2).objs.size = s.heap.objs.size + 4 := by rw [Heap.size_push, z3]
  refine ⟨⟨_, (N5 _ (.head _)).1, rfl⟩, ?_⟩
  refine h (zH4 s.heap c1 c2).objs.size (zH2 s.heap c1 c2).objs.size (zH3 s.heap c1 c2).objs.size s.heap.objs.size (zH1 s.heap c1).objs.size _ _ ?_ ⟨.none, .none, c1.iter0, c2.iter0, rfl, c1.iter0_is, c2.iter0_is⟩ F5 (fun p hp => N5 p ?_) ?_
  · rw [z4, z3, z2, z1]
    generalize s.heap.objs.size = n
    constructor <;> (refine neN ?_; omega)
  · simp only [List.mem_append, List.mem_cons, List.not_mem_nil, or_false] at hp ⊢
    rcases hp with (rfl | rfl | rfl | rfl | rfl) | hp
    · simp
    · simp
    · simp
    · simp
    · simp
    · simp [hp]
  · intro q hq p hp
    have lt : @LT.lt Nat _ p.1 s.heap.objs.size := Heap.lt_size (N p hp).1
    simp only [List.mem_cons, List.not_mem_nil, or_false] at hq
    rcases hq with rfl | rfl | rfl | rfl | rfl
    all_goals (refine ltN ?_; dsimp only; omega)
end
end Mine
end
-- G12
section
theorem Mine.resetG12 : True := by (w_top off; trivial)
open PySem PySem.W PyProof.Rows PyProof.Rows.LCg
set_option Elab.async false
set_option maxRecDepth 100000
set_option maxHeartbeats 8000000
namespace Mine
section
variable {prog : Program} {w : World} {A : Around} {E : Value → Shared → Prop} {s : Shared} {env : Env} {h₀ : Heap} {L : Addr} {m : Str → Option Value}
/-- where the run of a comprehension that is assigned ends: what is behind the storing -/
noncomputable def CompDoneA (prog : Program) (w : World) (A : Around) (E : Value → Shared → Prop) (h₀ : Heap) (L : Addr) (m : Str → Option Value) (env : Env) (y : Str) (Q : Flow → Shared → Prop) (C D : Addr) (s₂ : Shared) (r : Result) (s' : Shared) : Prop := match r with
  | .ok _ => ∃ h' tk oC m' ys news', s' = { s₂ with heap := h', toks := tk } ∧ Fr h₀ L h' m ∧ NsObj oC m' ∧ News h₀ L h' ((C, oC) :: (D, lst ys) :: news') ∧ (∀ p ∈ news', p.1 ≠ C) ∧
      wpAny (model prog w) A (storeName env y (.ref D)) (fun _ s'' => ∃ h2 tk2 m2 nx, s'' = { s₂ with heap := h2, toks := tk2 } ∧ Fr h₀ L h2 m2 ∧ News h₀ L h2 ((C, oC) :: nx) ∧ (∀ p ∈ nx, p.1 ≠ C) ∧
        ∀ h'', Fr h₀ L h'' m2 → News h₀ L h'' nx → Q .next { s₂ with heap := h'', toks := tk2 }) E { s₂ with heap := h', toks := tk }
  | .error _ => False
theorem Assign_ListComp_G {elt target iter : Expr} {ifs : List Expr} {rest : List Comprehension} {scope : Scope} {cl : List (Str × Addr)} {pos spos py : Pos} {y : Str} {Q : Flow → Shared → Prop} (_F₀ : Fr h₀ L s.heap m)
    (hsw : swapsWith (.ListComp elt (⟨target, iter, ifs, 0⟩ :: rest) scope pos) (some (.Name y py)) spos.line env = pure true)
    (hclos : closureFor scope env = pure cl) (hcell : ∀ y ∈ scope.names, y.2 ≠ .cell) (hkind : scope.kind = .function)
    (hnames : ∀ y ∈ scope.names, y.2 = .local → scope.names.lookup y.1 = some .local)
    (h : wpAny (model prog w) A (eval iter env) (fun xv s₁ => wpAny (model prog w) A (pyIter xv) (fun itv s₂ => ∃ news, Fr h₀ L s₂.heap m ∧ News h₀ L s₂.heap news ∧ ∀ D C oC h₁, NsObj oC (fun _ => none) → Fr h₀ L h₁ m → News h₀ L h₁ ((C, oC) :: (D, lst []) :: news) → (∀ p ∈ news, p.1 < D) → @LT.lt Nat _ D C →
      codeAny (model prog w) A (.compStart (.ListComp elt (⟨target, iter, ifs, 0⟩ :: rest) scope pos) 0 itv (.ref D) (compEnvC scope cl C env)) (CompDoneA prog w A E h₀ L m env y Q C D s₂) { s₂ with heap := h₁ }) E s₁) E s)
    (hs : ∀ x, foldedSetIterable iter env x = pure x := by intro _; rfl) :
    wpAny (model prog w) A (exec (.Assign [.Name y py] (.ListComp elt (⟨target, iter, ifs, 0⟩ :: rest) scope pos) spos) env) Q E s := by
  k_with_none
  k_with "om" => with_reducible first | exact Mine.om36 | fail
  rw [exec_Assign_Name_used _ _ _ _ hsw]
  refine wpAny_bind (wpAny_standAt (wpAny_bind ?_))
  show wpAny _ A (do let _ ← comprehension (.ListComp elt (⟨target, iter, ifs, 0⟩ :: rest) scope pos) scope env _ (newList []) false (eval iter env) (some (assign (.Name y py) env))) _ _ s
  refine wpAny_bind (wpAny_mono (wpAny_comprehension_free (use := some (assign (.Name y py) env)) (Q := fun _ s' => Q .next s') rfl hs hclos hkind hnames
    (wpAny_mono h (fun xv s₁ h₁ => wpAny_mono h₁ (fun itv s₂ h₂ => ?_) fun _ _ e => e) fun _ _ e => e)) (fun _ s' hq => wpAny_pure (wpAny_pure hq)) fun _ _ e => e)
  obtain ⟨news, hq37⟩ := h₂
  refine anE3 hq37 ?_; clear hq37; intro F N K
  refine wpAny_newObj_type (wpAny_newFunctionEnv hcell (by intro y hy; simp at hy) (fun h₁ hns₁ hsb₁ => ?_) hkind)
  dsimp only at hns₁ hsb₁ ⊢
  generalize hH2 : s₂.heap.push { cls := .type "list", dict := none, data := .seq ([] : List Value).toArray } = H2 at hns₁ hsb₁ ⊢
  have hC : H2.objs.size = s₂.heap.objs.size + 1 := by rw [← hH2, Heap.size_push]
  have F2 : Fr h₀ L H2 m := hH2 ▸ F.push _
  have N2 : News h₀ L H2 ((s₂.heap.objs.size, lst []) :: news) := hH2 ▸ N.push F _
  have old : ∀ b o, H2.get? b = some o → h₁.get? b = some o := fun b o e => hsb₁.extBut b o (Nat.ne_of_lt (Heap.lt_size e)) (Heap.get?_push_of_some _ e)
  obtain ⟨oC, heC, hoC⟩ := ns_obj hns₁
  have N3 : News h₀ L h₁ ((H2.objs.size, oC) :: (s₂.heap.objs.size, lst []) :: news) := fun p hp => by
    revert p; exact allC (⟨heC, Nat.ne_of_gt F2.ns.lt, next_is_new F2⟩) (fun p hp => ⟨old _ _ (N2 p hp).1, (N2 p hp).2⟩)
  have hk := K s₂.heap.objs.size H2.objs.size oC h₁ (by simpa using hoC) (F2.keeps old) N3 (fun p hp => Heap.lt_size (N p hp).1) (by rw [hC]; exact Nat.lt_succ_self _)
  refine codeAny_mono hk fun r s' hr => ?_
  cases r with
  | error e => exact hr.elim
  | ok f =>
    refine exE6 hr ?_; intro h' tk oC' m' ys news' hq39
    refine anE6 hq39 ?_; clear hq39; intro hr39 F' hm' N' hne hq
    clear hr
    subst hr39
    show wpAny _ A (assign (.Name y py) env (.ref s₂.heap.objs.size)) _ _ _
    refine wpAny_assign_Name (wpAny_mono hq (fun _ s'' h'' => ?_) fun _ _ e => e)
    refine exE4 h'' ?_; intro h2 tk2 m2 nx hq41
    refine anE5 hq41 ?_; clear hq41; intro hr41 F3 N3 hne3 hq3
    clear h''
    subst hr41
    have zC := (N3 _ (.head _))
    exact ⟨m', hm'.ns zC.1, fun h'' hs'' => hq3 h'' (F3.change hs'' zC.2.1 zC.2.2) fun p hp => ⟨hs''.extBut _ _ (hne3 p hp) (N3 p (.tail _ hp)).1, (N3 p (.tail _ hp)).2⟩⟩
/-- the end of an assigned comprehension: the name is a local one -/
theorem CompDoneA.local {y : Str} {Q : Flow → Shared → Prop} {C D : Addr} {s₂ : Shared} {f : Flow} {h' : Heap} {tk : Nat} {oC : Obj} {m' : Str → Option Value} {ys : List Value} {news' : List (Addr × Obj)} (hLe : env.locals = L) (hy : env.kindOf y = some .local) (hp : (env.scope.kind == .class || (env.scope.kind == .module && env.locals != env.globals)) = false)
    (F : Fr h₀ L h' m) (hC : NsObj oC m') (N : News h₀ L h' ((C, oC) :: (D, lst ys) :: news')) (hne : ∀ p ∈ news', p.1 ≠ C) (hCD : @Ne Nat C D)
    (h : ∀ h'' tk', Fr h₀ L h'' (fun z => if z = y then some (.ref D) else m z) → News h₀ L h'' ((D, lst ys) :: news') → Q .next { s₂ with heap := h'', toks := tk' }) :
    CompDoneA prog w A E h₀ L m env y Q C D s₂ (.ok f) { s₂ with heap := h', toks := tk } := by
  subst hLe
  refine ⟨h', tk, oC, m', ys, news', rfl, F, hC, N, hne, wpAny_storeName_local hy F.ns (fun h₂ hn₂ hs₂ => ?_) hp⟩
  refine ⟨h₂, _, fun z => if z = y then some (.ref D) else m z, (D, lst ys) :: news', rfl, F.set hn₂ hs₂, N.set hs₂, fun p hp => ?_, fun h'' F'' N'' => h h'' _ F'' N''⟩
  revert p; exact allC (fun e => hCD e.symm) (fun p hp => hne p hp)
theorem asgC' {scope : Scope} {cl : List (Str × Addr)} {C : Addr} {oC : Obj} {m₂ : Str → Option Value} {x : Str} {px : Pos} {v : Value} {rest : List (Addr × Obj)} {Q : Unit → Shared → Prop} (hkind : scope.kind = .function) (hx : scope.names.lookup x = some .local)
    (F : Fr h₀ L s.heap m) (N : News h₀ L s.heap ((C, oC) :: rest)) (hC : NsObj oC m₂) (hne : ∀ p ∈ rest, p.1 ≠ C)
    (h : ∀ oC' m' h' tk', NsObj oC' m' → m' x = some v → (∀ z, z ≠ x → m' z = m₂ z) → Fr h₀ L h' m → News h₀ L h' ((C, oC') :: rest) → Q () { s with heap := h', toks := tk' }) :
    wpAny (model prog w) A (assign (.Name x px) (compEnvC scope cl C env) v) Q E s :=
  asgC hkind hx F N hC hne fun oC' h' tk' hC' F' N' => h oC' _ h' tk' hC' (if_pos rfl) (fun z hz => if_neg hz) F' N'
/-- a pair let into two names -/
theorem asg_pair {scope : Scope} {cl : List (Str × Addr)} {C T : Addr} {oC : Obj} {m₂ : Str → Option Value} {a b : Str} {pa pb tp : Pos} {kk : Nat} {x y : Value} {rest : List (Addr × Obj)} {Q : Unit → Shared → Prop} (hh : A.handled = none) (hkind : scope.kind = .function) (ha : scope.names.lookup a = some .local) (hb : scope.names.lookup b = some .local)
    (hab : a ≠ b) (F : Fr h₀ L s.heap m) (N : News h₀ L s.heap ((C, oC) :: rest)) (hC : NsObj oC m₂) (hne : ∀ p ∈ rest, p.1 ≠ C) (hT : (T, pairObj x y) ∈ rest)
    (h : ∀ oC' m' h' tk', NsObj oC' m' → m' a = some x → m' b = some y → (∀ z, z ≠ a → z ≠ b → m' z = m₂ z) → Fr h₀ L h' m → News h₀ L h' ((C, oC') :: rest) → Q () { s with heap := h', toks := tk' }) :
    wpAny (model prog w) A (assign (.Tuple [.Name a pa, .Name b pb] kk tp) (compEnvC scope cl C env) (.ref T)) Q E s := by
  have zC := N _ (.head _)
  refine kcp_assign hh ⟨_, (N _ (.tail _ hT)).1, rfl, _, rfl⟩ (lookup_relabel_local ha) (lookup_relabel_local hb) (by simp [compEnvC, relabel, hkind]) (hC.ns zC.1) fun h' tk hn hk => ?_
  obtain ⟨oC', heC, hoC⟩ := ns_obj hn
  have hk' : ∀ c o, c ≠ C → s.heap.get? c = some o → h'.get? c = some o := hk
  refine h oC' _ h' tk hoC ?_ ?_ (fun z h1 h2 => by simp only [h1, h2, if_false]) ⟨F.ns.at' fun o e => hk' L o zC.2.1.symm e, fun c o e => hk' c o (fun q => by rw [q, zC.2.2] at e; cases e) (F.keep c o e), F.above⟩ fun p hp => ?_
  · simp only [hab, if_false, if_true]
  · simp only [if_true]
  · revert p; exact allC (⟨heC, zC.2⟩) (fun p hp => ⟨hk' _ _ (hne p hp) (N p (.tail _ hp)).1, (N p (.tail _ hp)).2⟩)
/-- a pair whose first is a pair -/
theorem asg_nest {scope : Scope} {cl : List (Str × Addr)} {C T T1 : Addr} {oC : Obj} {m₂ : Str → Option Value} {a b c : Str} {pa pb pc tp tp' : Pos} {kk kk' : Nat} {x1 x2 y : Value} {rest : List (Addr × Obj)} {Q : Unit → Shared → Prop} (hh : A.handled = none) (hkind : scope.kind = .function) (ha : scope.names.lookup a = some .local) (hb : scope.names.lookup b = some .local) (hc : scope.names.lookup c = some .local)
    (hab : a ≠ b) (hac : a ≠ c) (hbc : b ≠ c) (F : Fr h₀ L s.heap m) (N : News h₀ L s.heap ((C, oC) :: rest)) (hC : NsObj oC m₂) (hne : ∀ p ∈ rest, p.1 ≠ C) (hT : (T, pairObj (.ref T1) y) ∈ rest) (hT1 : (T1, pairObj x1 x2) ∈ rest)
    (h : ∀ oC' m' h' tk', NsObj oC' m' → m' a = some x1 → m' b = some x2 → m' c = some y → Fr h₀ L h' m → News h₀ L h' ((C, oC') :: rest) → Q () { s with heap := h', toks := tk' }) :
    wpAny (model prog w) A (assign (.Tuple [.Tuple [.Name a pa, .Name b pb] kk' tp', .Name c pc] kk tp) (compEnvC scope cl C env) (.ref T)) Q E s := by
  have zC := N _ (.head _)
  refine wpAny_assign_Tuple hh ⟨_, (N _ (.tail _ hT)).1, rfl, _, rfl⟩ rfl rfl fun h₁ he₁ => ?_
  have up₁ : ∀ c o, s.heap.get? c = some o → h₁.get? c = some o := fun c o e => he₁ c o (Nat.ne_of_lt (Heap.lt_size e)) e
  have F₁ : Fr h₀ L h₁ m := F.keeps up₁
  have N₁ : News h₀ L h₁ ((C, oC) :: rest) := fun p hp => ⟨up₁ _ _ (N p hp).1, (N p hp).2⟩
  show wpAny _ _ (assignInOrder [assign (.Tuple [.Name a pa, .Name b pb] kk' tp') (compEnvC scope cl C env), assign (.Name c pc) (compEnvC scope cl C env)] [.ref T1, y]) _ _ _
  refine assignInOrder_cons ?_
  refine asg_pair (s := { s with heap := h₁ }) hh hkind ha hb hab F₁ N₁ hC hne hT1 fun oC2 m2 h2 tk2 hC2 e1 e2 _ F2 N2 => ?_
  refine assignInOrder_cons ?_
  refine asgC' hkind hc F2 N2 hC2 hne fun oC3 m3 h3 tk3 hC3 e3 e4 F3 N3 => ?_
  refine assignInOrder_nil ?_
  exact h oC3 m3 h3 tk3 hC3 (by rw [e4 a hac]; exact e1) (by rw [e4 b hbc]; exact e2) e3 F3 N3
end
end Mine
end
-- G13
section
theorem Mine.resetG13 : True := by (w_top off; trivial)
open PySem PySem.W PyProof.Rows PyProof.Rows.LCg
set_option Elab.async false
set_option maxRecDepth 100000
set_option maxHeartbeats 8000000
namespace Mine
inductive PairsAre (T : List (Addr × Obj)) : List Value → List (Int × Int) → Prop
  | nil : PairsAre T [] []
  | cons {a : Addr} {x y : Int} {tx ty : Tok} {vs : List Value} {cs : List (Int × Int)} : (a, pairObj (.int x tx) (.int y ty)) ∈ T → PairsAre T vs cs → PairsAre T (.ref a :: vs) ((x, y) :: cs)
theorem PairsAre.mono {T T' : List (Addr × Obj)} (h : ∀ p ∈ T, p ∈ T') : ∀ {vs : List Value} {cs : List (Int × Int)}, PairsAre T vs cs → PairsAre T' vs cs := by
  intro vs cs r
  induction r with
  | nil => exact .nil
  | cons hm _ ih => exact .cons (h _ hm) ih
theorem PairsAre.snoc {T : List (Addr × Obj)} {a : Addr} {x y : Int} {tx ty : Tok} (hm : (a, pairObj (.int x tx) (.int y ty)) ∈ T) : ∀ {vs : List Value} {cs : List (Int × Int)}, PairsAre T vs cs → PairsAre T (vs ++ [.ref a]) (cs ++ [(x, y)]) := by
  intro vs cs r
  induction r with
  | nil => exact .cons hm .nil
  | cons h _ ih => exact .cons h ih
theorem PairsAre.length {T : List (Addr × Obj)} : ∀ {vs : List Value} {cs : List (Int × Int)}, PairsAre T vs cs → vs.length = cs.length := by
  intro vs cs r
  induction r with
  | nil => rfl
  | cons _ _ ih => exact congrArg Nat.succ ih
theorem PairsAre.at {T : List (Addr × Obj)} : ∀ {vs : List Value} {cs : List (Int × Int)}, PairsAre T vs cs → ∀ {i : Nat} {v : Value}, vs[i]? = some v → ∃ a x y tx ty, v = .ref a ∧ cs[i]? = some (x, y) ∧ (a, pairObj (.int x tx) (.int y ty)) ∈ T := by
  intro vs cs r
  induction r with
  | nil => exact fun e => nomatch e
  | cons h _ ih =>
    intro i v e
    cases i with
    | zero => exact ⟨_, _, _, _, _, (Option.some.inj e).symm, rfl, h⟩
    | succ i => exact ih e
noncomputable def cellsAt (shape : List Int) (i : Nat) : List (Int × Int) := (List.range (shape.getD i 0).toNat).map fun (j : Nat) => ((i : Int), ((j : Nat) : Int))
noncomputable def cellsN (shape : List Int) (n : Nat) : List (Int × Int) := (List.range n).flatMap (cellsAt shape)
theorem cellsN_succ (shape : List Int) (n : Nat) : cellsN shape (n + 1) = cellsN shape n ++ cellsAt shape n := by
  simp [cellsN, List.range_succ]
noncomputable def wideF (step : Str) (shape : List Int) : Int := if (step.length : Int) * ((shape.length : Int) - 1) > 1 then (step.length : Int) * ((shape.length : Int) - 1) else 1
noncomputable def wordF (step : Str) (wide : Int) (c : Int × Int) (letter : Nat) : Str := Txt.mul step c.1 ++ Txt.mul (Str.ofString " ") (wide * c.2) ++ ⟨#[letter]⟩ ++ Str.ofString "\t"
noncomputable def wordsF (step : Str) (shape : List Int) (k : Nat) : List Str := (List.range k).map fun i => wordF step (wideF step shape) ((cellsN shape shape.length).getD i (0, 0)) ((Str.ofString "abcde").cps.getD i 0)
theorem cells_small {shape : List Int} {k : Nat} {a b : Int} (h5 : shape.length ≤ 5) (hx : ∀ x ∈ shape, 0 ≤ x ∧ x ≤ 5) (h : (cellsN shape shape.length)[k]? = some (a, b)) : 0 ≤ a ∧ a ≤ 5 ∧ 0 ≤ b ∧ b ≤ 5 := by
  k_with_none
  k_with "om" => with_reducible first | exact Mine.om135 (by assumption) (by assumption) (by assumption) (by assumption) | fail
  have hm := List.mem_of_getElem? h
  simp only [cellsN, List.mem_flatMap, List.mem_range, cellsAt, List.mem_map] at hm
  obtain ⟨i, hi, j, hj, e⟩ := hm
  obtain ⟨rfl, rfl⟩ := Prod.mk.inj e
  have hg := hx (shape.getD i 0) (by rw [List.getD_eq_getElem?_getD, List.getElem?_eq_getElem hi]; exact List.getElem_mem hi)
  omega
theorem strs_snoc {vs : List Value} {xs : List Str} (h : StrsAre vs xs) (x : Str) (t : Tok) : StrsAre (vs ++ [.str x t]) (xs ++ [x]) := by
  induction h with
  | nil => exact .cons _ _ .nil
  | cons y t' h ih => exact .cons _ _ ih
theorem pyIter_range_K {A : Around} {E : Value → Shared → Prop} {h₀ : Heap} {L r : Addr} {m : Str → Option Value} {news : List (Addr × Obj)} {s : Shared} {prog : Program} {w : World} {a b : Int} {t u v : Tok} {n : Nat} {Q : Value → Shared → Prop} (F : Fr h₀ L s.heap m) (N : News h₀ L s.heap news)
    (hr : IsRange s.heap r a b 1 t u v) (hsmall : Builtin.Range.small a b 1 = true) (hn : Builtin.Range.rangeSize a b 1 = (n : Int))
    (h : ∀ I h', Fr h₀ L h' m → News h₀ L h' ((I, rgIter (a + (0 : Nat)) ((n : Int) - (0 : Nat))) :: news) → (∀ p ∈ news, p.1 < I) → Q (.ref I) { s with heap := h' }) : wpAny (model prog w) A (pyIter (.ref r)) Q E s := by
  refine wpAny_pyIter_range hr hsmall ?_
  refine h _ _ (F.push _) (fun p hp => ?_) fun p hp => Heap.lt_size (N p hp).1
  have z := (N.push F { cls := .type "range_iterator", data := .fields #[rawInt a, rawInt (Builtin.Range.rangeSize a b 1), rawInt 1] }) 
  rcases List.mem_cons.mp hp with rfl | hp
  · have z1 := z _ (.head _)
    rw [hn] at z1
    refine ⟨?_, z1.2⟩
    rw [hn]
    simpa using z1.1
  · exact z p (.tail _ hp)
section
variable {w : World} {p : Program} {loose : List Str} {mean : ExcName → Option Value} {mg mb : Str → Option Value} {dp un : Nat} {gd : Option (List Code)} {A₀ : Around} {env : Env} {outer : List Env} {base h₀ : Heap} {L : Addr} {m : Str → Option Value} {news : List (Addr × Obj)} {s : Shared} {R : Result → Shared → Prop}
theorem words_code {lr : Addr} {svs : List Value} {nr : Nat} {shape : List Int} {step : Str} {t3 : Tok} (B : Below A₀ base outer h₀) (F : Fr h₀ L s.heap m) (X : (hd.heap_39 w.params).In h₀) (N : News h₀ L s.heap news) (T : Top p loose mean mg mb h₀)
    (hf : env.frame = some L) (hke : env.scope.kind = .function) (hroom : dp + 4 < recursionLimit)
    (hlr : (lr, listOf svs.toArray nr) ∈ news) (hI : IntsAre svs shape) (hsl : shape.length ≤ 5) (hs5 : ∀ x ∈ shape, 0 ≤ x ∧ x ≤ 5) (hs1 : 1 ≤ shape.length) (hcells : (cellsN shape shape.length).length = 5) (hstep : step.length ≤ 10)
    (ret : ∀ r wvs n h' tk', Fr h₀ L h' m → News h₀ L h' ((r, listOf wvs.toArray n) :: news) → StrsAre wvs (wordsF step shape 5) → (∀ p ∈ news, p.1 < r) → R (.ok (.ret (.ref r))) { s with heap := h', toks := tk' }) :
    codeAny (model PySem.Challenge.rw_rs0134_01.row.prog w) (Ar dp un gd env outer) (.call (.ref 169) ⟨[.ref lr, .str step t3], []⟩) R s := by
  k_with "execs cons" => (k_here; (fail_if_success with_reducible (rename Mine.NoLet => kL)); (with_reducible refine wpAny_execs_cons ?_); (try dsimp only); refine Mine.letQS ?_; intro _ _)
  k_with "storeName" => (k_here; (fail_if_success with_reducible (rename Mine.NoStore => kL)); k_dflt (refine' Mine.storeLet (by k_asm) (by k_asm) ?_ (by rfl) (by rfl); k_whole; intro _ _ _ _; (try k_sweep)))
  k_with "off" => (intro _; intros; repeat (first | exact rfl | (refine Eq.trans (if_neg (by first | assumption | (refine' Mine.ne_of_out (by assumption) (by repeat (first | with_reducible exact List.mem_cons_self | refine List.mem_cons_of_mem _ ?_))))) ?_)))
  k_with "unf" => (refine' code_defC ?enk1 ?enk2 ?enk3 ?enk4 ?enk5 ?enkA ?enkF ?enkK ?enk6 ?enk7 ?enk8 ?enk9 ?enkB ?enkD ?_ ?enc2 ?enc3 ?enc4; (case enkA => exact rfl); (case enkF => assumption); (case enkK => assumption); (case enk1 => k_asm); (case enk2 => k_asm); (case enk3 => k_asm); (case enk4 => k_asm); (case enk5 => k_asm); (case enk6 => k_is); (case enk7 => k_is); (case enk8 => first | assumption | (show _ < recursionLimit; dsimp only; omega) | ktr_room); (case enk9 => exact BindsTo.of_eq rfl); (case enkB => exact rfl); (case enkD => decide +kernel); (case enc2 => exact rfl); (case enc3 => exact rfl); (case enc4 => exact rfl); k_whole; intro _ _ _ _ _ _ _ zN' zY' zB' _ _ zl1; (try k_lt zl1); k_cells zY'; (try simp only [List.cons_append, List.nil_append] at zN'); (try dsimp only); (try k_lift zB'); (try k_fold))
  k_with "enter" => (refine' code_def ?enk1 ?enk2 ?enk3 ?enk4 ?enk5 ?enkA ?enkF ?enkK ?enk6 ?enk7 ?enk8 ?enk9 ?enkB ?_ ?enc2 ?enc3 ?enc4 ?enc5; (case enkA => exact rfl); (case enkF => assumption); (case enkK => assumption); (case enk1 => k_asm); (case enk2 => k_asm); (case enk3 => k_asm); (case enk4 => k_asm); (case enk5 => k_asm); (case enk6 => k_is); (case enk7 => k_is); (case enk8 => first | assumption | (show _ < recursionLimit; dsimp only; omega) | ktr_room); (case enk9 => exact BindsTo.of_eq rfl); (case enc5 => decide); (case enkB => exact locs rfl); (case enc2 => exact rfl); (case enc3 => exact rfl); (case enc4 => exact rfl); k_whole; intro _ _ _ _ _ _ _ _ _; (try dsimp only); (try k_fold))
  k_with "InvEndG" => (refine Hold.mk ?_)
  k_with "pyIter ref" => (refine Hold.mk ?_)
  k_with "call ref" => (k_here; (with_reducible show wpAny _ _ (call (Value.ref 28) _) _ _ _); (with_reducible refine wpAny_call (strcoll_code (by k_asm) (by k_asm) (by k_asm) (by k_asm) (by k_asm) rfl rfl (by first | assumption | (dsimp only [Around.deeper]; omega)) ?_)); intro _ _ _ _ _; (try dsimp only))
  k_with "kall" => (first | exact List.forall_mem_nil _ | assumption | exact all_ne_of_lt (by assumption) | (refine' List.forall_mem_cons.mpr ⟨(by k_ne), (by k_all)⟩) | exact tbn_neAll (by assumption) | exact tbn_neAll (And.right (by assumption)) | exact tbn_neAll (And.right (And.right (by assumption))) | exact tbn_neAll (And.right (And.right (And.right (by assumption)))) | exact tbn_neAll (And.right (And.right (And.right (And.right (by assumption))))) | exact tbn_neAll (And.right (And.right (And.right (And.right (And.right (by assumption)))))) | exact tbn_neAll (And.right (And.right (And.right (And.right (And.right (And.right (by assumption))))))) | exact tbn_neAll (And.right (And.right (And.right (And.right (And.right (And.right (And.right (by assumption)))))))) | exact tbn_neAll (And.right (And.right (And.right (And.right (And.right (And.right (And.right (And.right (by assumption))))))))) | exact tbn_neAll (And.right (And.right (And.right (And.right (And.right (And.right (And.right (And.right (And.right (by assumption)))))))))) | exact tbn_neAll (And.right (And.right (And.right (And.right (And.right (And.right (And.right (And.right (And.right (And.right (by assumption))))))))))))
  k_with "call builtin:list.append" => (k_here; (with_reducible show wpAny _ _ (call (Value.builtin _) [Value.ref _, _]) _ _ _); k_dflt (refine' append_K (by k_asm) (by k_asm) (by k_upd) ?_ (by first | assumption | size_fits); k_whole); intro _ _ _; (try k_sweep))
  k_with "brkQ" => (dsimp only [brkQ])
  k_with "BrkEnd" => (refine Hold.mk ?_)
  k_with "call builtin:len" => (k_here; (with_reducible show wpAny _ _ (call (Value.builtin "len") [Value.str _ _]) _ _ _); refine len_str (by omega) ?_)
  k_with "call builtin:len" => (k_here; (with_reducible show wpAny _ _ (call (Value.builtin "len") [Value.ref _]) _ _ _); refine PyProof.Rows.len_list (News.isList (by k_asm) (by k_mem)) (by rw [List.size_toArray]; first | omega | (simp only [List.length_cons]; omega)) ?_; rw [List.size_toArray])
  k_with "call builtin:len" => (k_here; (with_reducible show wpAny _ _ (call (Value.builtin "len") [Value.ref _]) _ _ _); refine PyProof.Rows.len_tuple (News.isTup (by k_asm) (by k_mem)) (by rw [List.size_toArray]; omega) ?_; rw [List.size_toArray])
  k_with "kmem" => (with_reducible first | assumption | exact List.mem_cons_self | (refine List.mem_cons_of_mem _ ?_; k_mem) | (refine List.mem_append_left _ ?_; k_mem))
  k_with "CompSrc" => (refine Hold.mk ?_)
  k_with "exec Assign cons ListComp" => (refine Hold.mk ?_)
  k_with "eval ListComp" => (refine Hold.mk ?_)
  k_with "subscriptTail" => (k_here; (with_reducible show wpAny _ _ (subscriptTail _ _ (Value.ref _) (Value.int _ _)) _ _ _); (with_reducible refine item_litK (News.isList (by k_asm) (by with_reducible k_mem)) (by omega) (by omega) (by with_reducible assumption) ?_))
  k_with "binaryOp Add str str" => (refine PyProof.Rows.add_str (fun t' tk' => ?_) (by rw [sizeLine_eq]; (try simp only [Str.length_append]); omega); (try dsimp only))
  k_with "eval Name" => (k_here; (with_reducible show wpAny _ _ (eval (Expr.Name _ _) (compEnvC _ _ _ _)) _ _ _); k_dflt (first | refine LCgL.ld_own (by k_asm) (by k_mem) (by with_reducible assumption) (by with_reducible assumption) ?_ | (refine' lcf_free (by k_asm) (by rfl) (by k_mem) (by k_asm) ?_ (by rfl) (by rfl); k_whole) | refine LCgL.ld_global (by k_asm) (by k_asm) (by k_asm) (by k_is) ?_ | refine LCgL.ld_built (by k_asm) (by k_asm) (by k_asm) (by k_is) (by boot_by_name) (by decide) ?_))
  k_with "om" => with_reducible first | exact Mine.om86 (by assumption) | exact Mine.om90 (by assumption) | exact Mine.om139 (by assumption) (by assumption) (by assumption) (by assumption) | exact Mine.om17 (by assumption) (by assumption) | exact Mine.om193 (by assumption) (by assumption) | exact Mine.om70 | exact Mine.om235 (by assumption) (by assumption) | exact Mine.om254 (by assumption) (by assumption) | exact Mine.om260 (by assumption) | exact Mine.om275 (by assumption) | exact Mine.om32 | exact Mine.om296 (by assumption) | exact Mine.om308 (by assumption) | exact Mine.om316 (by assumption) | exact Mine.om317 (by assumption) | exact Mine.om318 (by assumption) | exact Mine.om322 (by assumption) | exact Mine.om323 (by assumption) | exact Mine.om329 (by assumption) | exact Mine.om335 (by assumption) (by assumption) | exact Mine.om337 (by assumption) | exact Mine.om339 (by assumption) | exact Mine.om80 | exact Mine.om149 | exact Mine.om142 (by assumption) | exact Mine.om354 (by assumption) | exact Mine.om355 (by assumption) | exact Mine.om363 (by assumption) | exact Mine.om367 (by assumption) | exact Mine.om386 (by assumption) | exact Mine.om391 (by assumption) | exact Mine.om163 (by assumption) | exact Mine.om185 (by assumption) | exact Mine.om117 | exact Mine.om413 | exact Mine.om180 (by assumption) | exact Mine.om252 | exact Mine.om211 (by assumption) | exact Mine.om461 | exact Mine.om148 (by assumption) | exact Mine.om471 (by assumption) | exact Mine.om472 (by assumption) | exact Mine.om39 | exact Mine.om503 | exact Mine.om515 | exact Mine.om522 | fail
  revert X; k_fill; intro X
  have hroom0 : dp < recursionLimit := by omega
  k_dflt (k_extra "unf")
  rename_i gG LG hG tkG FG FL XX TG o1 o2 o3 d1 d2 d3
  replace d1 : o1.data = .cell none := d1
  replace d2 : o2.data = .cell (some (.str step t3)) := d2
  replace d3 : o3.data = .cell (some (.ref lr)) := d3
  have hvl : svs.length = shape.length := hI.length
  k_steps
  unfold Hold
  refine Assign_ListComp_G FL (by with_unfolding_all rfl) (by with_unfolding_all rfl) (by decide) rfl (by decide) ?_
  k_steps
  unfold Hold
  rename IsRange _ _ _ _ _ _ _ _ => hR
  rename Fr gG LG _ _ => F1
  rename News gG LG _ _ => N1
  have hsm : Builtin.Range.small 0 (↑shape.length) 1 = true := small_one (by omega) (by omega) (by omega) (by omega)
  have hsz : Builtin.Range.rangeSize 0 (↑shape.length) 1 = (shape.length : Int) := by unfold Builtin.Range.rangeSize; rw [if_pos (by decide)]; split <;> omega
  refine pyIter_range_K F1 N1 hR hsm hsz fun I h2 F2 N2 hltI => ?_
  clear F1 N1 hR
  refine ⟨_, F2, N2, fun D C oC h3 hC F3 N3 hltD hDC => ?_⟩
  clear F2 N2
  refine compIt_start (own := [_]) rfl (LIt.range rfl (a := 0) (n := shape.length)) (fun p hp => N3 p (.tail _ (.tail _ hp))) rfl ?_
  refine compIt_more rfl rfl (fun _ => rfl) (LIt.range rfl (a := 0) (n := shape.length)) (fun i ys m₂ X => ∃ tups, X = tups ++ ((LG + 1 + 1 + 1, o1) :: (LG + 1 + 1, o2) :: (LG + 1, o3) :: news) ∧ PairsAre X ys (cellsN shape i) ∧ ys.length ≤ 5 * i ∧ ∀ p ∈ tups, ∀ q ∈ ((LG + 1 + 1 + 1, o1) :: (LG + 1 + 1, o2) :: (LG + 1, o3) :: news), p.1 ≠ q.1) (own₀ := [_]) F3 N3 hC rfl (fun _ hp => nomatch hp) ?_ ?_ ?_ ?_ ?_ ?_
  · intro q hq p hp
    rw [List.mem_singleton.mp hq]
    exact Nat.ne_of_lt (hltI p hp)
  · intro p hp
    have z := hltD p (.tail _ hp)
    exact ⟨Nat.ne_of_lt (Nat.lt_trans z hDC), Nat.ne_of_lt z⟩
  · intro q hq
    rw [List.mem_singleton.mp hq]
    have z := hltD _ (.head _)
    exact ⟨Nat.ne_of_lt (Nat.lt_trans z hDC), Nat.ne_of_lt z⟩
  · exact ⟨[], rfl, .nil, by simp, fun _ hp => nomatch hp⟩
  · clear F3 N3 hC
    rintro i v ext ys m₂ X own oC h tk E' hi hp34 hp35 hC F2 N2 hd hX hoC off hlt
    try (refine letQS ?_; intro Q36 s36)
    obtain ⟨rfl, t, rfl⟩ := hp34
    obtain ⟨tups, hq43⟩ := hp35
    refine anE4 hq43 ?_; clear hq43; intro hr43 hP hyl htb
    subst hr43
    have hm3 : (LG + 1, o3) ∈ tups ++ ((LG + 1 + 1 + 1, o1) :: (LG + 1 + 1, o2) :: (LG + 1, o3) :: news) ++ own := List.mem_append_left _ (List.mem_append_right _ (.tail _ (.tail _ (.head _))))
    have hmr : (lr, listOf svs.toArray nr) ∈ tups ++ ((LG + 1 + 1 + 1, o1) :: (LG + 1 + 1, o2) :: (LG + 1, o3) :: news) ++ own := List.mem_append_left _ (List.mem_append_right _ (.tail _ (.tail _ (.tail _ hlr))))
    rw [List.nil_append] at N2
    have hZC : ∀ p ∈ (tups ++ ((LG + 1 + 1 + 1, o1) :: (LG + 1 + 1, o2) :: (LG + 1, o3) :: news)) ++ own, p.1 ≠ C ∧ p.1 ≠ D := fun p hp => (List.mem_append.mp hp).elim (hX p) (hoC p)
    have hXZ : ∀ p ∈ tups ++ ((LG + 1 + 1 + 1, o1) :: (LG + 1 + 1, o2) :: (LG + 1, o3) :: news), p ∈ (tups ++ ((LG + 1 + 1 + 1, o1) :: (LG + 1 + 1, o2) :: (LG + 1, o3) :: news)) ++ own := fun p hp => List.mem_append_left _ hp
    have hOZ : ∀ p ∈ own, p ∈ (tups ++ ((LG + 1 + 1 + 1, o1) :: (LG + 1 + 1, o2) :: (LG + 1, o3) :: news)) ++ own := fun p hp => List.mem_append_right _ hp
    generalize hZ : (tups ++ ((LG + 1 + 1 + 1, o1) :: (LG + 1 + 1, o2) :: (LG + 1, o3) :: news)) ++ own = Z at N2 hm3 hmr hZC hXZ hOZ
    refine asgC' rfl rfl F2 N2 hC ?_ ?_
    · exact allC (Nat.ne_of_lt hDC) (fun p hp => (hZC p hp).1)
    intro oC2 m2 h2 tk2 hC2 hmi _ F3 N3
    clear F2 N2 hC
    rename IntsAre svs shape => hI9
    obtain ⟨ti, hsv⟩ := hI9.get i (shape.getD i 0) (by rw [List.getD_eq_getElem?_getD, List.getElem?_eq_getElem hi]; rfl)
    have hsv' : svs[((0 : Int) + (i : Int)).toNat]? = some (.int (shape.getD i 0) ti) := by
      have : ((0 : Int) + (i : Int)).toNat = i := by omega
      rw [this]; exact hsv
    k_steps
    unfold Hold
    rename IsRange _ _ _ _ _ _ _ _ => hR
    rename Fr gG LG _ _ => F4
    rename News gG LG _ _ => N4
    have hg5 := hs5 (shape.getD i 0) (by rw [List.getD_eq_getElem?_getD, List.getElem?_eq_getElem hi]; exact List.getElem_mem hi)
    have hsm2 : Builtin.Range.small 0 (shape.getD i 0) 1 = true := small_one (by omega) (by omega) (by omega) (by omega)
    have hsz2 : Builtin.Range.rangeSize 0 (shape.getD i 0) 1 = ((shape.getD i 0).toNat : Int) := by unfold Builtin.Range.rangeSize; rw [if_pos (by decide)]; split <;> omega
    refine pyIter_range_K F4 N4 hR hsm2 hsz2 fun I2 h5 F5 N5 hltI2 => ?_
    clear F4 N4 hR
    have hI2C : @LT.lt Nat _ C I2 := hltI2 _ (.head _)
    have hI2D : @LT.lt Nat _ D I2 := hltI2 _ (.tail _ (.head _))
    have hltZ : ∀ p ∈ Z, p.1 < I2 := fun p hp => hltI2 p (.tail _ (.tail _ hp))
    refine compIt_start (own := [_]) (X := (C, oC2) :: (D, lst ys) :: Z) rfl (LIt.range rfl (a := 0) (n := (shape.getD i 0).toNat)) N5 rfl ?_
    refine compIt_last rfl rfl (LIt.range rfl (a := 0) (n := (shape.getD i 0).toNat)) (fun j ys' m' X' => ∃ new, X' = new ++ Z ∧ PairsAre (new ++ (tups ++ ((LG + 1 + 1 + 1, o1) :: (LG + 1 + 1, o2) :: (LG + 1, o3) :: news))) ys' (cellsN shape i ++ (List.range j).map fun (j : Nat) => ((i : Int), ((j : Nat) : Int))) ∧
      m' (Str.ofString "i") = some (.int (0 + (i : Int)) t) ∧ ys'.length ≤ 5 * i + j ∧ j ≤ 5 ∧ ∀ p ∈ new, ∀ q ∈ Z, p.1 ≠ q.1) (own₀ := [(I2, rgIter (0 + (0 : Nat)) (((shape.getD i 0).toNat : Int) - (0 : Nat)))]) (X₀ := Z) F5 (fun p hp => N5 p ?_) hC2 rfl (fun _ hp => nomatch hp) ?_ hZC ?_ ?_ ⟨[], rfl, ?_, hmi, hyl, by omega, fun _ hp => nomatch hp⟩ ?_ ?_ ?_
    · revert p; exact allC (.tail _ (.head _)) (allC (.tail _ (.tail _ (.head _))) (allC (.head _) (fun p hp => .tail _ (.tail _ (.tail _ hp)))))
    · intro q hq p hp
      rw [List.mem_singleton.mp hq]
      exact Nat.ne_of_lt (hltZ p hp)
    · intro q hq
      rw [List.mem_singleton.mp hq]
      exact ⟨Nat.ne_of_gt hI2C, Nat.ne_of_gt hI2D⟩
    · exact Nat.ne_of_gt hDC
    · rw [List.range_zero, List.map_nil, List.append_nil]; exact hP
    · rintro j ys' m' X' hp37
      try (refine letQS ?_; intro Q38 s38)
      obtain ⟨_, hq44⟩ := hp37
      refine anE6 hq44 ?_; clear hq44; intro _ _ _ h1 h2 _
      omega
    · clear F5 N5 hC2
      rintro j v ext ys' m' X' own' oC' h6 tk6 E'' hj hp39 hp40 hC' F6 N6 hd6 hX6 hoC6 off6 hlt6
      try (refine letQS ?_; intro Q41 s41)
      obtain ⟨rfl, tj, rfl⟩ := hp39
      obtain ⟨new, hq46⟩ := hp40
      refine anE6 hq46 ?_; clear hq46; intro hr46 hP' hmi' hyl' hj5 hno
      subst hr46
      rw [List.nil_append] at N6
      have hYZ : ∀ p ∈ new ++ Z, p ∈ (new ++ Z) ++ own' := fun p hp => List.mem_append_left _ hp
      have hOY : ∀ p ∈ own', p ∈ (new ++ Z) ++ own' := fun p hp => List.mem_append_right _ hp
      have hYC : ∀ p ∈ (new ++ Z) ++ own', p.1 ≠ C ∧ p.1 ≠ D := fun p hp => (List.mem_append.mp hp).elim (hX6 p) (hoC6 p)
      generalize hY : (new ++ Z) ++ own' = Y at N6 hYZ hOY hYC
      refine asgC' rfl rfl F6 N6 hC' ?_ ?_
      · exact allC (Nat.ne_of_lt hDC) (fun p hp => (hYC p hp).1)
      intro oC7 m7 h7 tk7 hC7 hm7j hm7 F7 N7
      clear F6 N6 hC'
      have hm7i : m7 (Str.ofString "i") = some (.int (0 + (i : Int)) t) := by rw [hm7 _ (by decide)]; exact hmi'
      refine tnil ?_
      k_steps
      rename Fr gG LG _ _ => F8
      rename News gG LG _ _ => N8
      rename _ ∧ _ ∧ AllLt _ _ => hL8
      have hltY := ktn_ltOf hL8.2.2
      have hltN : ∀ p ∈ new ++ Z, _ := fun p hp => hltY p (hYZ p hp)
      rename_i T8 _
      refine TEnd.intro ((T8, pairObj (.int (0 + (i : Int)) t) (.int (0 + (j : Int)) tj)) :: (new ++ Z)) F8 N8 (.tail _ (.head _)) (.tail _ (.tail _ (.head _))) ?_ ?_ hC7 (fun _ hp => nomatch hp) ?_ ?_ ⟨(T8, pairObj (.int (0 + (i : Int)) t) (.int (0 + (j : Int)) tj)) :: new, rfl, ?_, hm7i, ?_, ?_, ?_⟩
      · exact allC (.head _) (fun p hp => .tail _ (.tail _ (.tail _ (hYZ p hp))))
      · intro p hp
        exact .tail _ (.tail _ (.tail _ (hOY p hp)))
      · exact allC (⟨Nat.ne_of_gt hL8.1, Nat.ne_of_gt hL8.2.1⟩) (fun p hp => hX6 p hp)
      · intro q hq p hp
        revert p; exact allC (Nat.ne_of_gt (hltY q (hOY q hq))) (fun p hp => off6 q hq p hp)
      · have e0 : ∀ z : Int, 0 + z = z := Int.zero_add
        have e1 : cellsN shape i ++ (List.range (j + 1)).map (fun (j : Nat) => ((i : Int), ((j : Nat) : Int))) = (cellsN shape i ++ (List.range j).map fun (j : Nat) => ((i : Int), ((j : Nat) : Int))) ++ [((i : Int), (j : Int))] := by
          rw [List.range_succ, List.map_append, List.append_assoc]; rfl
        rw [e1]
        refine PairsAre.snoc (tx := t) (ty := tj) ?_ (hP'.mono fun p hp => .tail _ hp)
        rw [e0, e0]
        exact .head _
      · simp only [List.length_append, Option.toList, List.length_cons, List.length_nil]; omega
      · omega
      · intro p hp q hq
        revert p; exact allC (Nat.ne_of_gt (hltN q (List.mem_append_right _ hq))) (fun p hp => hno p hp q hq)
    · rintro ys' m' X' oC' h6 tk6 hp42 hC' F6 N6 hX6
      try (refine letQS ?_; intro Q43 s43)
      obtain ⟨new, hq48⟩ := hp42
      refine anE6 hq48 ?_; clear hq48; intro hr48 hP' hmi' hyl' hj5 hno
      subst hr48
      refine ⟨⟨_, rfl⟩, ys', TEnd.intro (new ++ (tups ++ ((LG + 1 + 1 + 1, o1) :: (LG + 1 + 1, o2) :: (LG + 1, o3) :: news))) F6 N6 (.head _) (.tail _ (.head _)) ?_ ?_ hC' (fun _ hp => nomatch hp) ?_ ?_ ⟨new ++ tups, ?_, ?_, ?_, ?_⟩⟩
      · intro p hp
        refine .tail _ (.tail _ ?_)
        rcases List.mem_append.mp hp with hp | hp
        · exact List.mem_append_left _ hp
        · exact List.mem_append_right _ (hXZ p hp)
      · intro p hp
        exact .tail _ (.tail _ (List.mem_append_right _ (hOZ p hp)))
      · intro p hp
        rcases List.mem_append.mp hp with hp | hp
        · exact hX6 p (List.mem_append_left _ hp)
        · exact hX p hp
      · intro q hq p hp
        rcases List.mem_append.mp hp with hp | hp
        · exact hno p hp q (hOZ q hq)
        · exact off q hq p hp
      · rw [List.append_assoc]
      · rw [cellsN_succ]
        simpa [cellsAt] using hP'
      · simp; omega
      · intro p hp q hq
        rcases List.mem_append.mp hp with hp | hp
        · exact hno p hp q (hXZ q (List.mem_append_right _ hq))
        · exact htb p hp q hq
  · clear F3 N3 hC
    rintro ys m₂ X oC h tk hp44 hC F2 N2 hX
    try (refine letQS ?_; intro Q45 s45)
    obtain ⟨tups, hq50⟩ := hp44
    refine anE4 hq50 ?_; clear hq50; intro hr50 hP hyl htb
    subst hr50
    refine CompDoneA.local rfl rfl rfl F2 hC N2 (fun p hp => (hX p hp).1) (Nat.ne_of_gt hDC) fun h3 tk3 F3 N3 => ?_
    clear F2 N2 hC
    k_steps
    rename Fr gG LG _ _ => F4
    rename News gG LG _ _ => N4
    have hD3 : @LT.lt Nat _ (LG + 1 + 1 + 1) D := hltD _ (.tail _ (.head _))
    have hD2 : @LT.lt Nat _ (LG + 1 + 1) D := hltD _ (.tail _ (.tail _ (.head _)))
    have N5 : News gG LG _ ((LG + 1 + 1 + 1, o1) :: ((D, lst ys) :: (LG + 1 + 1, o2) :: (LG + 1, o3) :: (tups ++ news))) := fun p hp => N4 p (by
      rcases List.mem_cons.mp hp with rfl | hp
      · exact .tail _ (List.mem_append_right _ (.head _))
      · rcases List.mem_cons.mp hp with rfl | hp
        · exact .head _
        · rcases List.mem_cons.mp hp with rfl | hp
          · exact .tail _ (List.mem_append_right _ (.tail _ (.head _)))
          · rcases List.mem_cons.mp hp with rfl | hp
            · exact .tail _ (List.mem_append_right _ (.tail _ (.tail _ (.head _))))
            · rcases List.mem_append.mp hp with hp | hp
              · exact .tail _ (List.mem_append_left _ hp)
              · exact .tail _ (List.mem_append_right _ (.tail _ (.tail _ (.tail _ hp)))))
    clear N4
    refine storeX_C F4 N5 rfl (UpdF.head ?_) d1 (fun h6 o1' F6 N6 d1' => ?_) rfl rfl
    · intro p hp
      rcases List.mem_cons.mp hp with rfl | hp
      · exact Nat.ne_of_gt hD3
      · rcases List.mem_cons.mp hp with rfl | hp
        · exact Nat.ne_of_lt (Nat.lt_succ_self _)
        · rcases List.mem_cons.mp hp with rfl | hp
          · refine neN ?_; omega
          · rcases List.mem_append.mp hp with hp | hp
            · exact htb p hp _ (.head _)
            · have z := ltN (zl1 p hp)
              refine neN ?_; omega
    clear F4 N5
    obtain ⟨W, tW, d1', hW⟩ : ∃ W t, o1'.data = .cell (some (.int W t)) ∧ W = wideF step shape := ⟨_, _, d1', by unfold wideF; rw [hvl]⟩
    have hW40 : 1 ≤ W ∧ W ≤ 40 := by
      have z : (step.length : Int) * ((shape.length : Int) - 1) ≤ 10 * 4 := Int.mul_le_mul (by omega) (by omega) (by omega) (by omega)
      rw [hW]; unfold wideF; split <;> omega
    k_steps
    unfold Hold
    refine ListComp_G F6 (by with_unfolding_all rfl) (by decide) rfl (by decide) ?_
    k_steps
    rename Fr gG LG _ _ => F7
    rename News gG LG _ _ => N7
    refine zip_K (c1 := .list D ys ys.length) (c2 := .str (Str.ofString "abcde") _) F7 N7 ?_ (fun _ hp => nomatch hp) trivial (show (Str.ofString "abcde").cps.all (· < 128) = true by decide +kernel) ?_
    · intro p hp
      rw [List.mem_singleton.mp hp]
      exact .tail _ (.head _)
    intro z TI TO i1 i2 zown h8 hZA hZO F8 N8 hltz
    clear F7 N7
    obtain ⟨za, zb, zo1, zo2, rfl, hz1, hz2⟩ := id hZO
    refine wpAny_pyIter_zip (N8 _ (.head _)).1 ?_
    refine ⟨_, F8, N8, fun D2 C2 oC h9 hC F9 N9 hltD2 hDC2 => ?_⟩
    clear F8 N8
    have hbase : ∀ p ∈ ((LG + 1 + 1 + 1, o1') :: (D, lst ys) :: (LG + 1 + 1, o2) :: (LG + 1, o3) :: (tups ++ news)), p.1 < D2 := fun p hp => hltD2 p (List.mem_append_right _ hp)
    have hzo : ∀ q ∈ [(z, zipObj .none TI TO), (TI, pairObj (.ref i1) (.ref i2)), (TO, pairObj za zb), (i1, zo1), (i2, zo2)], q.1 < D2 := fun p hp => hltD2 p (List.mem_append_left _ hp)
    refine compIt_start rfl (LIt.zip rfl hZA (c1 := .list D ys ys.length) (c2 := .str (Str.ofString "abcde") _)) (fun p hp => N9 p (.tail _ (.tail _ hp))) hZO ?_
    refine compIt_last rfl rfl (LIt.zip rfl hZA (c1 := .list D ys ys.length) (c2 := .str (Str.ofString "abcde") _)) (fun k ws _ X => X = ((LG + 1 + 1 + 1, o1') :: (D, lst ys) :: (LG + 1 + 1, o2) :: (LG + 1, o3) :: (tups ++ news)) ∧ StrsAre ws (wordsF step shape k) ∧ ws.length ≤ 5 ∧ k ≤ 5) F9 N9 hC hZO ?_ ?_ ?_ ?_ (Nat.ne_of_gt hDC2) ⟨rfl, ?_, by simp, by omega⟩ ?_ ?_ ?_
    · intro p hp
      rcases List.mem_append.mp hp with hp | hp
      · rw [List.mem_singleton.mp hp]; exact .tail _ (.head _)
      · nomatch hp
    · intro q hq p hp
      exact Nat.ne_of_lt (hltz q hq p hp)
    · intro p hp
      have z := hbase p hp
      exact ⟨Nat.ne_of_lt (Nat.lt_trans z hDC2), Nat.ne_of_lt z⟩
    · intro p hp
      have z := hzo p hp
      exact ⟨Nat.ne_of_lt (Nat.lt_trans z hDC2), Nat.ne_of_lt z⟩
    · exact .nil
    · rintro k ws _ X ⟨_, _, h, _⟩; omega
    · clear F9 N9 hC
      rintro k v ext ws m₂ X own oC' h10 tk10 E' hk hp46 hp47 hC F9 N9 hd hX hoC off hlt
      try (refine letQS ?_; intro Q48 s48)
      refine exE3 hp46 ?_; intro T x y hq53
      refine anE4 hq53 ?_; clear hq53; intro hr52 hr53 hx hy
      clear hp46
      subst hr52
      subst hr53
      refine anE4 hp47 ?_; intro hr55 hS hwl hk5
      clear hp47
      subst hr55
      obtain ⟨T1, ci, cj, tci, tcj, rfl, hcell, hT1⟩ := hP.at hx
      refine exE2 hy ?_; intro cc cu hq57
      obtain ⟨hcc, hr57⟩ := hq57
      clear hy
      subst hr57
      have hT1' : (T1, pairObj (.int ci tci) (.int cj tcj)) ∈ ((LG + 1 + 1 + 1, o1') :: (D, lst ys) :: (LG + 1 + 1, o2) :: (LG + 1, o3) :: (tups ++ news)) ++ own := by
        refine List.mem_append_left _ ?_
        rcases List.mem_append.mp hT1 with hp | hp
        · exact .tail _ (.tail _ (.tail _ (.tail _ (List.mem_append_left _ hp))))
        · rcases List.mem_cons.mp hp with hp | hp
          · have e := (Prod.mk.inj hp).2
            rw [← e] at d1
            cases d1
          · rcases List.mem_cons.mp hp with hp | hp
            · exact .tail _ (.tail _ (List.mem_cons.mpr (.inl hp)))
            · rcases List.mem_cons.mp hp with hp | hp
              · exact .tail _ (.tail _ (.tail _ (List.mem_cons.mpr (.inl hp))))
              · exact .tail _ (.tail _ (.tail _ (.tail _ (List.mem_append_right _ hp))))
      have hm1 : (LG + 1 + 1 + 1, o1') ∈ ((LG + 1 + 1 + 1, o1') :: (D, lst ys) :: (LG + 1 + 1, o2) :: (LG + 1, o3) :: (tups ++ news)) ++ own := List.mem_append_left _ (.head _)
      have hm2 : (LG + 1 + 1, o2) ∈ ((LG + 1 + 1 + 1, o1') :: (D, lst ys) :: (LG + 1 + 1, o2) :: (LG + 1, o3) :: (tups ++ news)) ++ own := List.mem_append_left _ (.tail _ (.tail _ (.head _)))
      have hYZ : ∀ p ∈ ((LG + 1 + 1 + 1, o1') :: (D, lst ys) :: (LG + 1 + 1, o2) :: (LG + 1, o3) :: (tups ++ news)), p ∈ ((LG + 1 + 1 + 1, o1') :: (D, lst ys) :: (LG + 1 + 1, o2) :: (LG + 1, o3) :: (tups ++ news)) ++ own := fun p hp => List.mem_append_left _ hp
      have hOY : ∀ p ∈ own, p ∈ ((LG + 1 + 1 + 1, o1') :: (D, lst ys) :: (LG + 1 + 1, o2) :: (LG + 1, o3) :: (tups ++ news)) ++ own := fun p hp => List.mem_append_right _ hp
      have hYC : ∀ p ∈ ((LG + 1 + 1 + 1, o1') :: (D, lst ys) :: (LG + 1 + 1, o2) :: (LG + 1, o3) :: (tups ++ news)) ++ own, p.1 ≠ C2 ∧ p.1 ≠ D2 := fun p hp => (List.mem_append.mp hp).elim (hX p) (hoC p)
      have hTC : T ≠ C2 := Nat.ne_of_gt (hlt _ (.head _) (C2, oC') (.head _))
      generalize hZ2 : ((LG + 1 + 1 + 1, o1') :: (D, lst ys) :: (LG + 1 + 1, o2) :: (LG + 1, o3) :: (tups ++ news)) ++ own = Z2 at N9 hT1' hm1 hm2 hYZ hOY hYC
      refine asg_nest rfl rfl rfl rfl rfl (by decide) (by decide) (by decide) F9 N9 hC ?_ (.tail _ (.head _)) (.tail _ (.tail _ hT1')) ?_
      · exact allC (Nat.ne_of_lt hDC2) (allC (hTC) (fun p hp => (hYC p hp).1))
      intro oC3 m3 h11 tk11 hC3 e1 e2 e3 F10 N10
      rw [List.singleton_append] at N10
      clear F9 N9 hC
      refine tnil ?_
      have hc5 : 0 ≤ ci ∧ ci ≤ 5 ∧ 0 ≤ cj ∧ cj ≤ 5 := cells_small hsl hs5 hcell
      have hWj : 0 ≤ W * cj ∧ W * cj ≤ 40 * 5 := ⟨Int.mul_nonneg (by omega) (by omega), Int.mul_le_mul (by omega) (by omega) (by omega) (by omega)⟩
      have hl1 : (Str.ofString " ").length = 1 := rfl
      have hl2 : (Str.ofString "\t").length = 1 := rfl
      have hl3 : (⟨#[cc]⟩ : Str).length = 1 := rfl
      have hml : (Txt.mul step ci).length ≤ 10 * 5 := len_mul_leN hstep (by omega)
      have hab5 : (Str.ofString "abcde").cps.size = 5 := by decide +kernel
      have hk' : k < ys.length ∧ k < 5 := by
        have z : k < min ys.length (Str.ofString "abcde").cps.size := hk
        rw [hab5] at z; omega
      have ew : wordsF step shape (k + 1) = wordsF step shape k ++ [wordF step W (ci, cj) cc] := by
        have e1 : (cellsN shape shape.length).getD k (0, 0) = (ci, cj) := by rw [List.getD_eq_getElem?_getD, hcell]; rfl
        have e2 : (Str.ofString "abcde").cps.getD k 0 = cc := by rw [Array.getD_eq_getD_getElem?, hcc]; rfl
        rw [wordsF, List.range_succ, List.map_append, List.map_cons, List.map_nil, e1, e2, hW]; rfl
      k_steps
      refine TEnd.intro ((LG + 1 + 1 + 1, o1') :: (D, lst ys) :: (LG + 1 + 1, o2) :: (LG + 1, o3) :: (tups ++ news)) F10 N10 (.head _) (.tail _ (.head _)) (fun p hp => .tail _ (.tail _ (.tail _ (hYZ p hp)))) (fun p hp => .tail _ (.tail _ (.tail _ (hOY p hp)))) hC3 hd hX off ⟨rfl, ?_, ?_, by omega⟩
      · rw [ew]
        exact strs_snoc hS _ _
      · have z := hS.length
        simp only [List.length_append, Option.toList, List.length_cons, List.length_nil]
        rw [z]; simp [wordsF]; omega
    · rintro ws m₂ X oC' h10 tk10 hp49 hC F9 N9 hX
      try (refine letQS ?_; intro Q50 s50)
      refine anE4 hp49 ?_; intro hr59 hS hwl hk5
      clear hp49
      subst hr59
      refine ⟨h10, tk10, oC', _, ws, _, rfl, F9, hC, N9, fun p hp => (hX p hp).1, fun h11 F10 N10 => ?_⟩
      have hmin : min (ZSrc.list D ys ys.length).size (Str.ofString "abcde").cps.size = 5 := by
        have z := hP.length
        have z2 : (Str.ofString "abcde").cps.size = 5 := by decide +kernel
        have z3 : (ZSrc.list D ys ys.length).size = ys.length := rfl
        rw [z2, z3, z, hcells]; rfl
      have hS' : StrsAre ws (wordsF step shape 5) := by
        exact hmin ▸ hS
      k_steps
      rename News h₀ L _ _ => N11
      refine ret D2 ws ws.length _ _ (by k_asm) (cb_drop N11 fun p hp => ?_) hS' (fun p hp => hbase p (.tail _ (.tail _ (.tail _ (.tail _ (List.mem_append_right _ hp))))))
      revert p; exact allC (.head _) (fun p hp => .tail _ (.tail _ (.tail _ (.tail _ (.tail _ (List.mem_append_right _ hp))))))
end
end Mine
end
-- G14
section
theorem Mine.resetG14 : True := by (w_top off; trivial)
open PySem PySem.W PyProof.Rows PyProof.Rows.LCg
set_option Elab.async false
set_option maxRecDepth 100000
set_option maxHeartbeats 8000000
namespace Mine
theorem slice_from (vs : List Value) {a : Int} (h : 0 ≤ a) : slicePick vs.toArray (some a) none none = (vs.drop a.toNat).toArray := by
  k_with_none
  k_with "om" => with_reducible first | fail
  rw [kms_pick_eq]
  unfold kms_pick kms_lo kms_hi
  simp only [List.toList_toArray, if_neg (show ¬ a < 0 by omega)]
  rcases Nat.le_total a.toNat vs.length with q | q
  · rw [Nat.min_eq_left q, List.take_of_length_le (by simp)]
  · rw [Nat.min_eq_right q, Nat.sub_self, List.take_zero, List.drop_eq_nil_of_le q]
theorem slice_upto (vs : List Value) {a : Int} (h : 0 ≤ a) : slicePick vs.toArray none (some a) none = (vs.take a.toNat).toArray := by
  rw [kms_pick_eq]
  unfold kms_pick kms_lo kms_hi
  simp only [List.toList_toArray, if_neg (show ¬ a < 0 by omega), List.drop_zero, Nat.sub_zero]
  rcases Nat.le_total a.toNat vs.length with q | q
  · rw [Nat.min_eq_left q]
  · rw [Nat.min_eq_right q, List.take_of_length_le q, List.take_length]
theorem slice_init (vs : List Value) : slicePick vs.toArray none (some (-1)) none = vs.dropLast.toArray := by
  rw [kms_pick_eq]
  unfold kms_pick kms_lo kms_hi
  simp only [List.toList_toArray, List.drop_zero, Nat.sub_zero, List.dropLast_eq_take]
  rfl
theorem strs_at : ∀ {vs : List Value} {xs : List Str}, StrsAre vs xs → ∀ {i : Nat} {v : Value}, vs[i]? = some v → ∃ x t, v = .str x t ∧ xs[i]? = some x := by
  intro vs xs r
  induction r with
  | nil => exact fun e => nomatch e
  | cons x t _ ih =>
    intro i v e
    cases i with
    | zero => exact ⟨x, t, (Option.some.inj e).symm, rfl⟩
    | succ i => exact ih e
theorem strs_drop : ∀ {vs : List Value} {xs : List Str} (n : Nat), StrsAre vs xs → StrsAre (vs.drop n) (xs.drop n)
  | _, _, 0, h => h
  | _, _, _ + 1, .nil => .nil
  | _, _, n + 1, .cons _ _ h => strs_drop n h
theorem strs_take : ∀ {vs : List Value} {xs : List Str} (n : Nat), StrsAre vs xs → StrsAre (vs.take n) (xs.take n)
  | _, _, 0, _ => .nil
  | _, _, _ + 1, .nil => .nil
  | _, _, n + 1, .cons x t h => .cons x t (strs_take n h)
theorem strs_app : ∀ {vs ws : List Value} {xs ys : List Str}, StrsAre vs xs → StrsAre ws ys → StrsAre (vs ++ ws) (xs ++ ys) := by
  intro vs ws xs ys r h'
  induction r with
  | nil => exact h'
  | cons x t _ ih => exact .cons x t ih
theorem tests_one {prog : Program} {w : World} {A : Around} {E : Value → Shared → Prop} {s : Shared} {c : Expr} {env : Env} {Q : Bool → Shared → Prop} (h : wpAny (model prog w) A (isTrue c env (eval c env)) Q E s) : wpAny (model prog w) A (testsOf [c] env) Q E s := by
  unfold testsOf
  simp only [List.forIn_cons, List.forIn_nil, if_true]
  refine wpAny_bind (wpAny_bind (wpAny_mono h (fun ok s₁ h₁ => wpAny_pure ?_) fun _ _ e => e))
  exact wpAny_pure h₁
/-- where a turn of a for loop ends -/
inductive FEnd (h₀ : Heap) (L : Addr) (m₀ : Str → Option Value) (names : List Str) (s : Shared) (dep own : List (Addr × Obj)) (J : (Str → Option Value) → List (Addr × Obj) → Prop) (s₅ : Shared) : Prop
  | mk : ∀ (h' : Heap) (tk : Nat) (m₂ : Str → Option Value) (all X' : List (Addr × Obj)), s₅ = { s with heap := h', toks := tk } → Fr h₀ L h' m₂ → News h₀ L h' all → (∀ p ∈ X', p ∈ all) → (∀ p ∈ own, p ∈ all) → (∀ p ∈ dep, p ∈ X') → (∀ q ∈ own, ∀ p ∈ X', p.1 ≠ q.1) → J m₂ X' → (∀ z, z ∉ names → m₂ z = m₀ z) → FEnd h₀ L m₀ names s dep own J s₅
theorem FEnd.intro {h₀ h' : Heap} {L : Addr} {m₀ m₂ : Str → Option Value} {names : List Str} {s : Shared} {dep own all : List (Addr × Obj)} {J : (Str → Option Value) → List (Addr × Obj) → Prop} {tk : Nat} (X' : List (Addr × Obj))
    (F : Fr h₀ L h' m₂) (N : News h₀ L h' all) (hX : ∀ p ∈ X', p ∈ all) (ho : ∀ p ∈ own, p ∈ all) (hd : ∀ p ∈ dep, p ∈ X') (off : ∀ q ∈ own, ∀ p ∈ X', p.1 ≠ q.1) (hJ : J m₂ X') (hm : ∀ z, z ∉ names → m₂ z = m₀ z) : FEnd h₀ L m₀ names s dep own J { s with heap := h', toks := tk } :=
  ⟨h', tk, m₂, all, X', rfl, F, N, hX, ho, hd, off, hJ, hm⟩
noncomputable def FPost (h₀ : Heap) (L : Addr) (m₀ : Str → Option Value) (names : List Str) (s : Shared) (dep own : List (Addr × Obj)) (J : (Str → Option Value) → List (Addr × Obj) → Prop) (Q : Flow → Shared → Prop) (f : Flow) (s₃ : Shared) : Prop := match f with
  | .next => FEnd h₀ L m₀ names s dep own J s₃
  | .cont => FEnd h₀ L m₀ names s dep own J s₃
  | .brk => False
  | .ret v => Q (.ret v) s₃
inductive FInv (h₀ : Heap) (L : Addr) (m₀ : Str → Option Value) (names : List Str) (s : Shared) (dep : List (Addr × Obj)) (Own : Nat → List (Addr × Obj) → Prop) (n : Nat) (J : Nat → (Str → Option Value) → List (Addr × Obj) → Prop) (k : Nat) (s' : Shared) : Prop
  | mk : ∀ (i : Nat) (h : Heap) (tk : Nat) (m₁ : Str → Option Value) (X own : List (Addr × Obj)), k = n - i → i ≤ n → s' = { s with heap := h, toks := tk } → Fr h₀ L h m₁ → News h₀ L h (own ++ X) → Own i own → (∀ p ∈ dep, p ∈ X) → (∀ q ∈ own, ∀ p ∈ X, p.1 ≠ q.1) → J i m₁ X → (∀ z, z ∉ names → m₁ z = m₀ z) → FInv h₀ L m₀ names s dep Own n J k s'
inductive FItm (h₀ : Heap) (L : Addr) (m : Str → Option Value) (s : Shared) (i : Nat) (X : List (Addr × Obj)) (Own : Nat → List (Addr × Obj) → Prop) (P : Nat → Value → List (Addr × Obj) → Prop) (v : Value) (s₂ : Shared) : Prop
  | mk : ∀ (ext own' : List (Addr × Obj)) (h' : Heap) (tk' : Nat), P i v ext → Own (i + 1) own' → Fr h₀ L h' m → News h₀ L h' (ext ++ (own' ++ X)) → (∀ q ∈ own', ∀ p ∈ X, p.1 ≠ q.1) → (∀ e ∈ ext, ∀ p ∈ own' ++ X, p.1 < e.1) → s₂ = { s with heap := h', toks := tk' } → FItm h₀ L m s i X Own P v s₂
theorem app_turn {α : Type} {a b : List α} {p : α} (hp : p ∈ a ++ b) : p ∈ b ++ a := (List.mem_append.mp hp).elim (List.mem_append_right _) (List.mem_append_left _)
theorem FEnd.inv {h₀ : Heap} {L : Addr} {m₀ : Str → Option Value} {names : List Str} {s s₄ : Shared} {dep own' : List (Addr × Obj)} {Own : Nat → List (Addr × Obj) → Prop} {n i k : Nat} {J : Nat → (Str → Option Value) → List (Addr × Obj) → Prop} (h : FEnd h₀ L m₀ names s dep own' (J (i + 1)) s₄) (hk : k = n - i) (hi : i < n) (hO' : Own (i + 1) own') : ∃ m, m < k ∧ FInv h₀ L m₀ names s dep Own n J m s₄ := by
  obtain ⟨h5, tk5, m₂, all, X', rfl, F5, N5, hX5, ho5, hd5, off5, hJ5, hm5⟩ := h
  exact ⟨n - (i + 1), hk ▸ Nat.sub_succ_lt_self n i hi, i + 1, h5, tk5, m₂, X', own', rfl, hi, rfl, F5, fun p hp => (List.mem_append.mp hp).elim (fun q => N5 _ (ho5 p q)) fun q => N5 _ (hX5 p q), hO', hd5, off5, hJ5, hm5⟩
section
variable {prog : Program} {w : World} {A : Around} {E : Value → Shared → Prop} {s : Shared} {env : Env} {h₀ : Heap} {L : Addr} {m₀ : Str → Option Value}
variable {it : Value} {target : Expr} {body : List Stmt} {Q : Flow → Shared → Prop} {n : Nat} {dep : List (Addr × Obj)} {Own : Nat → List (Addr × Obj) → Prop} {P : Nat → Value → List (Addr × Obj) → Prop}
theorem forIt (I : LIt prog w A h₀ L target it n dep Own P) (names : List Str) (J : Nat → (Str → Option Value) → List (Addr × Obj) → Prop) {X₀ own₀ : List (Addr × Obj)}
    (F₀ : Fr h₀ L s.heap m₀) (N₀ : News h₀ L s.heap (own₀ ++ X₀)) (hO₀ : Own 0 own₀) (hd₀ : ∀ p ∈ dep, p ∈ X₀) (off₀ : ∀ q ∈ own₀, ∀ p ∈ X₀, p.1 ≠ q.1) (hJ₀ : J 0 m₀ X₀)
    (turn : ∀ i v ext m₁ X own h tk, i < n → P i v ext → J i m₁ X → Fr h₀ L h (over (names.map fun y => (y, m₁ y)) m₀) → News h₀ L h (ext ++ (X ++ own)) → (∀ p ∈ dep, p ∈ X) → (∀ q ∈ own, ∀ p ∈ X, p.1 ≠ q.1) → (∀ e ∈ ext, ∀ p ∈ X ++ own, p.1 < e.1) →
      wpAny (model prog w) A (assign target env v) (fun _ s₂ => wpAny (model prog w) A (execs body env) (FPost h₀ L m₀ names s dep own (J (i + 1)) Q) E s₂) E { s with heap := h, toks := tk })
    (done : ∀ m₁ X h tk, J n m₁ X → Fr h₀ L h (over (names.map fun y => (y, m₁ y)) m₀) → News h₀ L h X → Q .next { s with heap := h, toks := tk })
    (hE : PassesOwn (model prog w) A env E := by passes_own) :
    codeAny (model prog w) A (.forLoop target it body [] env) (fun r s' => match r with | .ok f => Q f s' | .error e => cameBackBy (model prog w) A env E e s') s := by
  k_with_none
  k_with "om" => with_reducible first | fail
  refine codeAny_forLoop_any (FInv h₀ L m₀ names s dep Own n J) ?_ n ⟨0, s.heap, s.toks, m₀, X₀, own₀, rfl, Nat.zero_le _, rfl, F₀, N₀, hO₀, hd₀, off₀, hJ₀, fun _ _ => rfl⟩
  intro k s' hI
  refine letQ ?_; intro Q1
  obtain ⟨i, h, tk, m₁, X, own, hk, hin, rfl, F, N, hO, hd, off, hJ, hm⟩ := hI
  have F := over_all names m₁ m₀ hm ▸ F
  rcases Nat.lt_or_ge i n with hi | hi
  · refine wpAny_mono (I.item i own X _ _ (fun v s₂ => FItm h₀ L (over (names.map fun y => (y, m₁ y)) m₀) s i X Own P v s₂) E hi hO F N hd off fun v ext own' h' tk' a1 a2 a3 a4 a5 a6 => ⟨ext, own', h', tk', a1, a2, a3, a4, a5, a6, rfl⟩) (fun r s₁ h₁ => ?_) hE
    obtain ⟨v, rfl, h₁⟩ := h₁
    refine wpAny_mono h₁ (fun _ s₂ h₂ => ?_) hE
    refine letQ ?_; intro Q2
    obtain ⟨ext, own', h', tk', hP, hO', F', N2, off2, hlt, rfl⟩ := h₂
    have N3 : News h₀ L h' (ext ++ (X ++ own')) := fun p hp => N2 p ((List.mem_append.mp hp).elim (List.mem_append_left _) fun q => List.mem_append_right _ (app_turn q))
    refine wpAny_mono (turn i v ext m₁ X own' h' tk' hi hP hJ F' N3 hd off2 (fun e he p hp => hlt e he p (app_turn hp))) (fun _ s₃ h₃ => wpAny_mono h₃ (fun f s₄ h₄ => ?_) hE) hE
    cases f with
    | next => exact FEnd.inv h₄ hk hi hO'
    | cont => exact FEnd.inv h₄ hk hi hO'
    | brk => exact h₄.elim
    | ret v => exact h₄
  · obtain rfl : i = n := Nat.le_antisymm hin hi
    refine wpAny_mono (I.done own X _ _ (fun r s₁ => r = none ∧ Q .next s₁) E hO F N hd off fun h' tk' F' N2 => ⟨rfl, done m₁ X h' tk' hJ F' N2⟩) (fun r s₁ h₁ => ?_) hE
    obtain ⟨rfl, h₁⟩ := h₁
    exact wpAny_execs_nil h₁
/-- a pair let into two names of the frame -/
theorem asgF_pair {T : Addr} {a b : Str} {pa pb tp : Pos} {kk : Nat} {x y : Value} {news : List (Addr × Obj)} {Q : Unit → Shared → Prop} {m : Str → Option Value} (hLe : env.locals = L) (hh : A.handled = none) (ha : env.kindOf a = some .local) (hb : env.kindOf b = some .local) (hp : (env.scope.kind == .class || (env.scope.kind == .module && env.locals != env.globals)) = false)
    (F : Fr h₀ L s.heap m) (N : News h₀ L s.heap news) (hT : (T, pairObj x y) ∈ news)
    (h : ∀ h' tk', Fr h₀ L h' (fun z => if z = b then some y else if z = a then some x else m z) → News h₀ L h' news → Q () { s with heap := h', toks := tk' }) :
    wpAny (model prog w) A (assign (.Tuple [.Name a pa, .Name b pb] kk tp) env (.ref T)) Q E s := by
  subst hLe
  refine kcp_assign hh ⟨_, (N _ hT).1, rfl, _, rfl⟩ ha hb hp F.ns fun h' tk hn hk => ?_
  refine h h' tk ⟨hn, fun c o e => hk c o (fun q => ?_) (F.keep c o e), F.above⟩ fun p hp => ⟨hk _ _ (N p hp).2.1 (N p hp).1, (N p hp).2⟩
  rw [q] at e
  exact absurd (Nat.lt_of_lt_of_le (Heap.lt_size e) F.above) (Nat.lt_irrefl _)
end
end Mine
end
-- G15
section
theorem Mine.resetG15 : True := by (w_top off; trivial)
open PySem PySem.W PyProof.Rows PyProof.Rows.LCg
set_option Elab.async false
set_option maxRecDepth 100000
set_option maxHeartbeats 8000000
namespace Mine
noncomputable def signsF : List Str := [Str.ofString "u", Str.ofString "v", Str.ofString "w", Str.ofString "x", Str.ofString "y"]
noncomputable def followN (below : List (List Int)) (tabs : List Int) (sizes : List Int) (word : Str) (n : Nat) : List Str :=
  (((signsF.zip sizes).take n).filter fun p => decide (Txt.count word p.1 < p.2) && fitsF below tabs (Txt.slice word (some 1) none ++ p.1)).map fun p => word ++ p.1
/-- is there a place where the texts do not rise -/
noncomputable def fallsF (whole : List Str) : List Str := ((whole.zip whole.tail).filter fun p => decide (0 ≤ collF p.1 p.2)).map (·.1)
/-- one step: the word's followers -/
noncomputable def followF (below : List (List Int)) (tabs : List Int) (sizes : List Int) (word : Str) : List Str :=
  ((signsF.zip sizes).filter fun p => decide (Txt.count word p.1 < p.2) && fitsF below tabs (Txt.slice word (some 1) none ++ p.1)).map fun p => word ++ p.1
theorem follow_len (below : List (List Int)) (tabs : List Int) (sizes : List Int) (word : Str) (n : Nat) : (followN below tabs sizes word n).length ≤ 5 := by
  unfold followN
  rw [List.length_map]
  refine Nat.le_trans (List.length_filter_le _ _) ?_
  rw [List.length_take, List.length_zip]
  have : signsF.length = 5 := rfl
  omega
theorem follow_all {below : List (List Int)} {tabs : List Int} {sizes : List Int} {word : Str} {n : Nat} (h : n = min 5 sizes.length) : followN below tabs sizes word n = followF below tabs sizes word := by
  unfold followN followF
  rw [List.take_of_length_le]
  rw [List.length_zip]
  have : signsF.length = 5 := rfl
  omega
theorem follow_word {below : List (List Int)} {tabs : List Int} {sizes : List Int} {word x : Str} (h : x ∈ followF below tabs sizes word) : x.length = word.length + 1 := by
  unfold followF at h
  obtain ⟨p, hp, rfl⟩ := List.mem_map.mp h
  have hz := (List.mem_filter.mp hp).1
  have h1 : p.1 ∈ signsF := (List.of_mem_zip hz).1
  rw [Str.length_append]
  simp only [signsF, List.mem_cons, List.not_mem_nil, or_false] at h1
  rcases h1 with h | h | h | h | h <;> rw [h] <;> rfl
theorem slice1_ix (n : Nat) : (Builtin.Str.strSliceIndices (some 1) none 1 n).length = n - 1 := by
  k_with_none
  k_with "om" => with_reducible first | exact Mine.om30 | exact Mine.om108 (by assumption) | fail
  unfold Builtin.Str.strSliceIndices PySem.sliceRange
  simp only [show (1 : Int) > 0 by decide, if_true, List.length_map, List.length_range]
  (split <;> (try split) <;> (try split) <;> (try simp only [Int.ediv_one]) <;> omega)
theorem slice1_len {x : Str} (h : 1 ≤ x.length) : (Txt.slice x (some 1) none).length ≤ x.length - 1 := by
  k_with_none
  k_with "om" => with_reducible first | exact Mine.om493 (by assumption) | fail
  unfold Txt.slice
  rw [slice1_ix]
  split
  · rename_i q
    simp at q
    omega
  · show (List.filterMap _ (Builtin.Str.strSliceIndices (some 1) none 1 x.length)).toArray.size ≤ x.length - 1
    rw [List.size_toArray]
    exact Nat.le_trans (List.length_filterMap_le _ _) (Nat.le_of_eq (slice1_ix x.length))
theorem sign_at {k c : Nat} (h : (Str.ofString "uvwxy").cps[k]? = some c) : signsF[k]? = some ⟨#[c]⟩ := by
  have e : (Str.ofString "uvwxy").cps = #[117, 118, 119, 120, 121] := by decide +kernel
  rw [e] at h
  match k, h with
  | 0, h => simp at h; subst h; rfl
  | 1, h => simp at h; subst h; rfl
  | 2, h => simp at h; subst h; rfl
  | 3, h => simp at h; subst h; rfl
  | 4, h => simp at h; subst h; rfl
  | k + 5, h => simp at h
noncomputable def fillGo (below : List (List Int)) (tabs : List Int) (sizes : List Int) : Nat → List Str → List Str → Int
  | 0, _, _ => -1
  | _ + 1, [], whole => if fallsF whole = [] then whole.length else -1
  | n + 1, word :: q, whole => if tabs.length < word.length then fillGo below tabs sizes n q (whole ++ [word]) else fillGo below tabs sizes n (q ++ followF below tabs sizes word) whole
noncomputable def fillF (below : List (List Int)) (tabs : List Int) (sizes : List Int) : Int := fillGo below tabs sizes 999 [Str.ofString "."] []
/-- what stands between the turns of _law_fillings -/
inductive FilO (w : World) (wl pb lf dl st : Addr) (kl : Nat) (ln : Int) (t1 t2 t3 t4 t5 t6 : Tok) (news : List (Addr × Obj)) (below : List (List Int)) (tabs sizes : List Int) (i : Nat) (nx : List (Addr × Obj)) : Prop
  | mk : ∀ (pvs : List Value) (q : List Str) (wvs : List Value) (whole : List Str) (kw kp2 : Nat), nx = (wl, listOf (List.toArray wvs) kw) :: (pb, listOf (List.toArray pvs) kp2) :: (lf, listOf ([] : List Value).toArray kl) :: (dl, dictOf (lexDict w ln (.ref st) pb t1 t2 t3 t4 t5 t6) 4) :: news →
    StrsAre pvs q → StrsAre wvs whole → fillGo below tabs sizes (999 - i) q whole = fillF below tabs sizes → (∀ x ∈ q, 1 ≤ x.length ∧ x.length ≤ 6) → q.length ≤ 1 + 5 * i → whole.length ≤ i → FilO w wl pb lf dl st kl ln t1 t2 t3 t4 t5 t6 news below tabs sizes i nx
/-- the same between the signs that a word is pushed with -/
inductive FilI (w : World) (wl pb lf dl st : Addr) (kl kw : Nat) (wvs : List Value) (ln : Int) (t1 t2 t3 t4 t5 t6 : Tok) (Y : List (Addr × Obj)) (below : List (List Int)) (tabs sizes : List Int) (q : List Str) (word : Str) (k : Nat) (X : List (Addr × Obj)) : Prop
  | mk : ∀ (pvs' : List Value) (kp' : Nat), X = (pb, listOf (List.toArray pvs') kp') :: (wl, listOf (List.toArray wvs) kw) :: (lf, listOf ([] : List Value).toArray kl) :: (dl, dictOf (lexDict w ln (.ref st) pb t1 t2 t3 t4 t5 t6) 4) :: Y → StrsAre pvs' (q ++ followN below tabs sizes word k) → FilI w wl pb lf dl st kl kw wvs ln t1 t2 t3 t4 t5 t6 Y below tabs sizes q word k X
section
variable {w : World} {p : Program} {loose : List Str} {mean : ExcName → Option Value} {mg mb : Str → Option Value} {dp un : Nat} {gd : Option (List Code)} {A₀ : Around} {env : Env} {outer : List Env} {base h₀ : Heap} {L : Addr} {m : Str → Option Value} {news : List (Addr × Obj)} {s : Shared} {R : Result → Shared → Prop}
theorem fillings_code {lx dl pb st ds pb' f lf ab at_ zr : Addr} {ln : Int} {t1 t2 t3 t4 t5 t6 s1 s2 s3 s4 s5 s6 s7 : Tok} {kl kp nb nt nz : Nat} {keep : List (Addr × Obj)} {bvs tvs zvs : List Value} {below : List (List Int)} {tabs sizes : List Int}
    (B : Below A₀ base outer h₀) (F : Fr h₀ L s.heap m) (X : (hd.heap_39 w.params).In h₀) (N : News h₀ L s.heap ((pb, listOf ([] : List Value).toArray kp) :: (lf, listOf ([] : List Value).toArray kl) :: (dl, dictOf (lexDict w ln (.ref st) pb t1 t2 t3 t4 t5 t6) 4) :: news)) (T : Top p loose mean mg mb h₀)
    (hf : env.frame = some L) (hke : env.scope.kind = .function) (hroom : dp + 6 < recursionLimit) (hun : un + 200 < cLine) (hx : LexAt w lx dl st ds pb' f lf s1 s2 s3 s4 s5 s6 s7 keep) (hk : ∀ q ∈ keep, q ∈ news)
    (hne1 : ∀ p ∈ news, p.1 ≠ lf) (hne2 : ∀ p ∈ news, p.1 ≠ dl) (hne3 : @Ne Nat lf dl) (hne4 : ∀ p ∈ news, p.1 ≠ pb) (hne5 : @Ne Nat pb lf) (hne6 : @Ne Nat pb dl)
    (hb : (ab, listOf bvs.toArray nb) ∈ news) (ht : (at_, listOf tvs.toArray nt) ∈ news) (hz : (zr, listOf zvs.toArray nz) ∈ news) (hI : IntsAre tvs tabs) (hIz : IntsAre zvs sizes) (hkt : tabs.length = 5) (hbl : bvs.length = below.length) (hkb : below.length = 5)
    (hrow : ∀ i v, bvs[i]? = some v → ∃ r vs n, v = .ref r ∧ (r, listOf vs.toArray n) ∈ news ∧ IntsAre vs (below.getD i [])) (hzl : sizes.length ≤ 5) (hnn : 0 ≤ fillF below tabs sizes)
    (ret : ∀ kp' kl' t2' tr h' tk', Fr h₀ L h' m → News h₀ L h' ((pb, listOf ([] : List Value).toArray kp') :: (lf, listOf ([] : List Value).toArray kl') :: (dl, dictOf (lexDict w ln (.ref st) pb t1 t2' t3 t4 t5 t6) 4) :: news) → R (.ok (.ret (.int (fillF below tabs sizes) tr))) { s with heap := h', toks := tk' }) :
    codeAny (model PySem.Challenge.rw_rs0134_01.row.prog w) (Ar dp un gd env outer) (.call (.ref 186) ⟨[.ref lx, .ref ab, .ref at_, .ref zr], []⟩) R s := by
  k_with "execs cons" => (k_here; (fail_if_success with_reducible (rename Mine.NoLet => kL)); (with_reducible refine wpAny_execs_cons ?_); (try dsimp only); refine Mine.letQS ?_; intro _ _)
  k_with "storeName" => (k_here; (fail_if_success with_reducible (rename Mine.NoStore => kL)); k_dflt (refine' Mine.storeLet (by k_asm) (by k_asm) ?_ (by rfl) (by rfl); k_whole; intro _ _ _ _; (try k_sweep)))
  k_with "off" => (intro _; intros; repeat (first | exact rfl | (refine Eq.trans (if_neg (by first | assumption | (refine' Mine.ne_of_out (by assumption) (by repeat (first | with_reducible exact List.mem_cons_self | refine List.mem_cons_of_mem _ ?_))))) ?_)))
  k_with "unf" => (refine' code_defC ?enk1 ?enk2 ?enk3 ?enk4 ?enk5 ?enkA ?enkF ?enkK ?enk6 ?enk7 ?enk8 ?enk9 ?enkB ?enkD ?_ ?enc2 ?enc3 ?enc4; (case enkA => exact rfl); (case enkF => assumption); (case enkK => assumption); (case enk1 => k_asm); (case enk2 => k_asm); (case enk3 => k_asm); (case enk4 => k_asm); (case enk5 => k_asm); (case enk6 => k_is); (case enk7 => k_is); (case enk8 => first | assumption | (show _ < recursionLimit; dsimp only; omega) | ktr_room); (case enk9 => exact BindsTo.of_eq rfl); (case enkB => exact rfl); (case enkD => decide +kernel); (case enc2 => exact rfl); (case enc3 => exact rfl); (case enc4 => exact rfl); k_whole; intro _ _ _ _ _ _ _ zN' zY' zB' _ _ zl1; (try k_lt zl1); k_cells zY'; (try simp only [List.cons_append, List.nil_append] at zN'); (try dsimp only); (try k_lift zB'); (try k_fold))
  k_with "enter" => (refine' code_def ?enk1 ?enk2 ?enk3 ?enk4 ?enk5 ?enkA ?enkF ?enkK ?enk6 ?enk7 ?enk8 ?enk9 ?enkB ?_ ?enc2 ?enc3 ?enc4 ?enc5; (case enkA => exact rfl); (case enkF => assumption); (case enkK => assumption); (case enk1 => k_asm); (case enk2 => k_asm); (case enk3 => k_asm); (case enk4 => k_asm); (case enk5 => k_asm); (case enk6 => k_is); (case enk7 => k_is); (case enk8 => first | assumption | (show _ < recursionLimit; dsimp only; omega) | ktr_room); (case enk9 => exact BindsTo.of_eq rfl); (case enc5 => decide); (case enkB => exact locs rfl); (case enc2 => exact rfl); (case enc3 => exact rfl); (case enc4 => exact rfl); k_whole; intro _ _ _ _ _ _ _ _ _; (try dsimp only); (try k_fold))
  k_with "InvEndG" => (refine Hold.mk ?_)
  k_with "pyIter ref" => (refine Hold.mk ?_)
  k_with "call ref" => (k_here; (with_reducible show wpAny _ _ (call (Value.ref 28) _) _ _ _); (with_reducible refine wpAny_call (strcoll_code (by k_asm) (by k_asm) (by k_asm) (by k_asm) (by k_asm) rfl rfl (by first | assumption | (dsimp only [Around.deeper]; omega)) ?_)); intro _ _ _ _ _; (try dsimp only))
  k_with "kall" => (first | exact List.forall_mem_nil _ | assumption | exact all_ne_of_lt (by assumption) | (refine' List.forall_mem_cons.mpr ⟨(by k_ne), (by k_all)⟩) | exact tbn_neAll (by assumption) | exact tbn_neAll (And.right (by assumption)) | exact tbn_neAll (And.right (And.right (by assumption))) | exact tbn_neAll (And.right (And.right (And.right (by assumption)))) | exact tbn_neAll (And.right (And.right (And.right (And.right (by assumption))))) | exact tbn_neAll (And.right (And.right (And.right (And.right (And.right (by assumption)))))) | exact tbn_neAll (And.right (And.right (And.right (And.right (And.right (And.right (by assumption))))))) | exact tbn_neAll (And.right (And.right (And.right (And.right (And.right (And.right (And.right (by assumption)))))))) | exact tbn_neAll (And.right (And.right (And.right (And.right (And.right (And.right (And.right (And.right (by assumption))))))))) | exact tbn_neAll (And.right (And.right (And.right (And.right (And.right (And.right (And.right (And.right (And.right (by assumption)))))))))) | exact tbn_neAll (And.right (And.right (And.right (And.right (And.right (And.right (And.right (And.right (And.right (And.right (by assumption))))))))))))
  k_with "call builtin:list.append" => (k_here; (with_reducible show wpAny _ _ (call (Value.builtin _) [Value.ref _, _]) _ _ _); k_dflt (refine' append_K (by k_asm) (by k_asm) (by k_upd) ?_ (by first | assumption | size_fits); k_whole); intro _ _ _; (try k_sweep))
  k_with "brkQ" => (dsimp only [brkQ])
  k_with "BrkEnd" => (refine Hold.mk ?_)
  k_with "call builtin:len" => (k_here; (with_reducible show wpAny _ _ (call (Value.builtin "len") [Value.str _ _]) _ _ _); refine len_str (by omega) ?_)
  k_with "call builtin:len" => (k_here; (with_reducible show wpAny _ _ (call (Value.builtin "len") [Value.ref _]) _ _ _); refine PyProof.Rows.len_list (News.isList (by k_asm) (by k_mem)) (by rw [List.size_toArray]; first | omega | (simp only [List.length_cons]; omega)) ?_; rw [List.size_toArray])
  k_with "call builtin:len" => (k_here; (with_reducible show wpAny _ _ (call (Value.builtin "len") [Value.ref _]) _ _ _); refine PyProof.Rows.len_tuple (News.isTup (by k_asm) (by k_mem)) (by rw [List.size_toArray]; omega) ?_; rw [List.size_toArray])
  k_with "kmem" => (with_reducible first | assumption | exact List.mem_cons_self | (refine List.mem_cons_of_mem _ ?_; k_mem) | (refine List.mem_append_left _ ?_; k_mem))
  k_with "CompSrc" => (refine Hold.mk ?_)
  k_with "exec Assign cons ListComp" => (refine Hold.mk ?_)
  k_with "eval ListComp" => (refine Hold.mk ?_)
  k_with "exec For Name Call cons nil" => (refine Hold.mk ?_)
  k_with "exec For Tuple Call cons nil" => (refine Hold.mk ?_)
  k_with "call ref" => (k_here; (with_reducible show wpAny _ _ (call (Value.ref 63) _) _ _ _); refine Hold.mk ?_)
  k_with "call ref" => (k_here; (with_reducible show wpAny _ _ (call (Value.ref 70) _) _ _ _); refine Hold.mk ?_)
  k_with "call ref" => (k_here; (with_reducible show wpAny _ _ (call (Value.ref 181) _) _ _ _); refine Hold.mk ?_)
  k_with "FPost" => (refine Hold.mk ?_)
  k_with "FEnd" => (refine Hold.mk ?_)
  k_with "binaryOp Add str str" => (refine PyProof.Rows.add_str (fun t' tk' => ?_) (by rw [sizeLine_eq]; (try simp only [Str.length_append]); omega); (try dsimp only))
  k_with "om" => with_reducible first | exact Mine.om22 (by assumption) | exact Mine.om26 (by assumption) (by assumption) (by assumption) (by assumption) (by assumption) | exact Mine.om34 (by assumption) | exact Mine.om77 (by assumption) (by assumption) (by assumption) | exact Mine.om82 (by assumption) (by assumption) (by assumption) | exact Mine.om110 (by assumption) (by assumption) (by assumption) | exact Mine.om112 (by assumption) (by assumption) (by assumption) | exact Mine.om129 (by assumption) (by assumption) | exact Mine.om156 (by assumption) (by assumption) (by assumption) | exact Mine.om160 (by assumption) (by assumption) (by assumption) | exact Mine.om161 (by assumption) (by assumption) | exact Mine.om162 (by assumption) | exact Mine.om165 (by assumption) (by assumption) | exact Mine.om170 (by assumption) | exact Mine.om181 (by assumption) | exact Mine.om191 (by assumption) | exact Mine.om192 (by assumption) (by assumption) | exact Mine.om225 (by assumption) | exact Mine.om250 (by assumption) (by assumption) | exact Mine.om87 (by assumption) | exact Mine.om31 (by assumption) | exact Mine.om332 (by assumption) | exact Mine.om340 (by assumption) | exact Mine.om365 (by assumption) | exact Mine.om368 (by assumption) | exact Mine.om374 (by assumption) | exact Mine.om407 (by assumption) | exact Mine.om450 (by assumption) | exact Mine.om36 | fail
  revert X; k_fill; intro X
  have hroom0 : dp < recursionLimit := by omega
  have q1 := hk _ hx.inst
  dsimp only [lexDict, List.cons_append, List.nil_append] at N
  k_dflt (k_extra "enter")
  rename_i gG LG hG FG FL NN BB XX TG
  k_steps
  unfold Hold
  have hlenK : keep.length = keep.length := rfl
  refine wpAny_call (push_code (w := w) (lx := lx) (dl := dl) (pb := pb) (iv := .ref st) (ln := ln) (t1 := t1) (t2 := t2) (t3 := t3) (t4 := t4) (t5 := t5) (t6 := t6) (kd := 4) (by k_asm) FL (by k_asm) NN (by k_asm) rfl rfl (by dsimp only [Around.deeper]; omega) (.tail _ (.tail _ q1)) (.tail _ (.head _)) ?_ (by decide) ?_)
  · exact allC (fun e => hne5 e.symm) (allC (fun e => hne6 e.symm) (fun p hp => hne4 p hp))
  intro h1 tk1 F1 N1
  rw [List.nil_append] at N1
  clear FL NN
  k_steps
  unfold Hold
  rename Fr gG LG _ _ => F2
  with_unfolding_all refine' For_invVF F2 ?k1 ?k2 ?_
  case k1 => exact rfl
  case k2 => exact rfl
  k_steps
  unfold Hold
  rename _ ∧ _ ∧ _ ∧ AllLt _ _ => hwl
  rename IsRange _ _ _ _ _ _ _ _ => hR
  rename Fr gG LG _ _ => F3
  rename News gG LG _ _ => N3
  rename_i wl _ _ _ _ _ _ _ _ _ _ _ _ _

  refine rangeLoop 999 [Str.ofString "word", Str.ofString "sign", Str.ofString "size"] (fun i _ nx => FilO w wl pb lf dl st kl ln t1 t2 t3 t4 t5 t6 news below tabs sizes i nx) rfl hR (by decide) (by decide) F3 N3 ?_ ?_ ?_
  · refine ⟨[_], [Str.ofString "."], [], [], 0, kp + 1, rfl, .cons _ _ .nil, .nil, rfl, ?_, by simp, by simp⟩
    intro x hx
    rw [List.mem_singleton.mp hx]
    decide +kernel
  · rintro i t m₁ nx h tk own hi hp51 hoff hp52 F4 N4
    try (refine letQS ?_; intro Q53 s53)
    refine exE2 hp51 ?_; intro I0 oI0 hq60
    obtain ⟨hI0, hI0lt⟩ := hq60
    clear hp51
    obtain ⟨pvs, q, wvs, whole, kw, kp2, rfl, hSp, hSw, hgo, hqw, hql, hwl2⟩ := hp52
    simp only [List.map, over, Int.zero_add] at F4
    simp only [List.cons_append] at N4
    clear F3 N3 hR
    have hwln := ktn_ltOf hwl.2.2.2
    have w1 := ltN hwl.1
    have w2 := ltN hwl.2.1
    have w3 := ltN hwl.2.2.1
    have o1 : ∀ p ∈ own, p.1 ≠ wl := fun p hp => hoff p hp wl (.head _)
    have o2 : ∀ p ∈ own, p.1 ≠ pb := fun p hp => hoff p hp pb (.tail _ (.head _))
    have o3 : ∀ p ∈ own, p.1 ≠ lf := fun p hp => hoff p hp lf (.tail _ (.tail _ (.head _)))
    have o4 : ∀ p ∈ own, p.1 ≠ dl := fun p hp => hoff p hp dl (.tail _ (.tail _ (.tail _ (.head _))))
    have a1 : ∀ p ∈ news ++ own, p.1 ≠ wl := fun p hp => (List.mem_append.mp hp).elim (fun h => Nat.ne_of_lt (hwln p h)) (o1 p)
    have a2 : ∀ p ∈ news ++ own, p.1 ≠ pb := fun p hp => (List.mem_append.mp hp).elim (hne4 p) (o2 p)
    have a3 : ∀ p ∈ news ++ own, p.1 ≠ lf := fun p hp => (List.mem_append.mp hp).elim (hne1 p) (o3 p)
    have a4 : ∀ p ∈ news ++ own, p.1 ≠ dl := fun p hp => (List.mem_append.mp hp).elim (hne2 p) (o4 p)
    have m1 : ∀ p ∈ news, p ∈ news ++ own := fun p hp => List.mem_append_left _ hp
    have hk' : ∀ q ∈ keep, q ∈ news ++ own := fun q hq => m1 q (hk q hq)
    have b0 := m1 _ q1
    have b1 := m1 _ hb
    have b2 := m1 _ ht
    have b3 := m1 _ hz
    have hpl : pvs.length = q.length := hSp.length
    have htvl : tvs.length = 5 := hI.length.trans hkt
    have hzvl : zvs.length = sizes.length := hIz.length
    have hwl3 : wvs.length = whole.length := hSw.length
    have m2 : ∀ p ∈ own, p ∈ news ++ own := fun p hp => List.mem_append_right _ hp
    generalize hY : news ++ own = Y at N4 a1 a2 a3 a4 m1 m2 hk' b0 b1 b2 b3
    dsimp only [lexDict, List.cons_append, List.nil_append] at N4
    k_steps
    unfold Hold
    cases hSp with
    | nil =>
      rename Fr gG LG _ _ => F5
      rename News gG LG _ _ => N5
      have e9 : 999 - i = (999 - (i + 1)) + 1 := by omega
      rw [e9, fillGo] at hgo
      have hfa : fallsF whole = [] := by
        by_cases q : fallsF whole = []
        · exact q
        · rw [if_neg q] at hgo
          rw [← hgo] at hnn
          exact absurd hnn (by decide)
      rw [if_pos hfa] at hgo
      have et1 : (tokF (([] : List Str).length + 1) [] ln).1 = Str.ofString "" := rfl
      have et2 : (tokF (([] : List Str).length + 1) [] ln).2.1 = [] := rfl
      have et3 : (tokF (([] : List Str).length + 1) [] ln).2.2 = ln := rfl
      refine wpAny_call (tok_code (lx := lx) (dl := dl) (pb := pb) (st := st) (ds := ds) (pb' := pb') (f := f) (lf := lf) (ln := ln) (t1 := t1) (t2 := t2) (t3 := t3) (t4 := t4) (t5 := t5) (t6 := t6) (kp := kp2) (ls := []) (lvs := []) (kl := kl) (keep := keep) (news := (pb, listOf ([] : List Value).toArray kp2) :: (wl, listOf (List.toArray wvs) kw) :: Y) (by k_asm) F5 (by k_asm) (fun p hp => N5 p ?_) (by k_asm) rfl rfl (by dsimp only [Around.deeper]; omega) (by dsimp only [Around.deeper]; omega) hx (fun q hq => .tail _ (.tail _ (hk' q hq))) (.head _) ?_ ?_ hne3 .nil (by decide) (fun _ hx => nomatch hx) ?_)
      · revert p; exact allC (.tail _ (.tail _ (.head _))) (allC (.tail _ (.tail _ (.tail _ (.head _)))) (allC (.tail _ (.head _)) (allC (.head _) (fun p hp => .tail _ (.tail _ (.tail _ (.tail _ hp)))))))
      · exact allC (hne5) (allC (Nat.ne_of_gt w2) (fun p hp => a3 p hp))
      · exact allC (hne6) (allC (Nat.ne_of_gt w3) (fun p hp => a4 p hp))
      intro lvs' kl' tt' t2' h6 tk6 hS6 F6 N6
      rw [et2] at hS6
      cases hS6
      rw [et3] at N6
      rw [et1]
      clear F5 N5
      k_steps
      unfold Hold
      rename Fr gG LG _ _ => F7
      refine ListComp_G F7 (by with_unfolding_all rfl) (by decide) rfl (by decide) ?_
      k_steps
      rename Fr gG LG _ _ => F8
      rename News gG LG _ _ => N8
      rw [slice_from _ (by decide)] at N8
      have w8 : @LT.lt Nat _ wl _ := Heap.lt_size (N8 _ (.tail _ (.tail _ (.tail _ (.tail _ (.head _)))))).1
      refine zip_K (c1 := .list wl wvs kw) (c2 := .list _ (wvs.drop (1 : Int).toNat) 0) F8 N8 ?_ ?_ trivial trivial ?_
      · intro p hp
        rw [List.mem_singleton.mp hp]
        exact .tail _ (.tail _ (.tail _ (.tail _ (.head _))))
      · intro p hp
        rw [List.mem_singleton.mp hp]
        exact .head _
      intro z TI TO i1 i2 zown h9 hZA hZO F9 N9 hltz
      clear F8 N8
      obtain ⟨za, zb, zo1, zo2, rfl, hz1, hz2⟩ := id hZO
      refine wpAny_pyIter_zip (N9 _ (.head _)).1 ?_
      refine ⟨_, F9, N9, fun D2 C2 oC h10 hC F10 N10 hltD2 hDC2 => ?_⟩
      clear F9 N9
      refine compIt_start rfl (LIt.zip rfl hZA (c1 := .list wl wvs kw) (c2 := .list _ (wvs.drop (1 : Int).toNat) 0)) (fun p hp => N10 p (.tail _ (.tail _ hp))) hZO ?_
      refine compIt_last rfl rfl (LIt.zip rfl hZA (c1 := .list wl wvs kw) (c2 := .list _ (wvs.drop (1 : Int).toNat) 0)) (fun k ws _ X => ws = [] ∧ X = (_, listOf (wvs.drop (1 : Int).toNat).toArray 0) :: (lf, listOf ([] : List Value).toArray kl') :: (dl, dictOf (lexDict w ln (.ref st) pb t1 t2' t3 t4 t5 t6) 4) :: (pb, listOf ([] : List Value).toArray kp2) :: (wl, listOf (List.toArray wvs) kw) :: Y) F10 N10 hC hZO ?_ ?_ ?_ ?_ (Nat.ne_of_gt hDC2) ⟨rfl, rfl⟩ ?_ ?_ ?_
      · intro p hp
        rcases List.mem_append.mp hp with hp | hp
        · rw [List.mem_singleton.mp hp]; exact .tail _ (.tail _ (.tail _ (.tail _ (.head _))))
        · rw [List.mem_singleton.mp hp]; exact .head _
      · intro q hq p hp
        exact Nat.ne_of_lt (hltz q hq p hp)
      · intro p hp
        have z := hltD2 p (List.mem_append_right _ hp)
        exact ⟨Nat.ne_of_lt (Nat.lt_trans z hDC2), Nat.ne_of_lt z⟩
      · intro p hp
        have z := hltD2 p (List.mem_append_left _ hp)
        exact ⟨Nat.ne_of_lt (Nat.lt_trans z hDC2), Nat.ne_of_lt z⟩
      · rintro k ws _ X ⟨rfl, _⟩; simp
      · clear F10 N10 hC
        rintro k v ext ws m₂ X own2 oC' h11 tk11 E' hk9 hp54 hp55 hC F11 N11 hd9 hX9 hoC9 off9 hlt9'
        try (refine letQS ?_; intro Q56 s56)
        refine exE3 hp54 ?_; intro T x y hq65
        refine anE4 hq65 ?_; clear hq65; intro hr64 hr65 hx1 hy1
        clear hp54
        subst hr64
        subst hr65
        obtain ⟨rfl, rfl⟩ := hp55
        obtain ⟨xa, ta, rfl, hxa⟩ := strs_at hSw hx1
        obtain ⟨ya, tb, rfl, hya⟩ := strs_at (strs_drop (1 : Int).toNat hSw) hy1
        have hno : ¬ 0 ≤ collF xa ya := by
          intro q
          have hzip : (whole.zip whole.tail)[k]? = some (xa, ya) := by
            rw [List.getElem?_zip_eq_some]
            exact ⟨hxa, by rw [← List.drop_one]; exact hya⟩
          have hm : xa ∈ fallsF whole := List.mem_map.mpr ⟨(xa, ya), List.mem_filter.mpr ⟨List.mem_of_getElem? hzip, decide_eq_true q⟩, rfl⟩
          rw [hfa] at hm
          nomatch hm
        have hTC : T ≠ C2 := Nat.ne_of_gt (hlt9' _ (.head _) (C2, oC') (.head _))
        have hXY : ∀ p ∈ _ ++ own2, p.1 ≠ C2 ∧ p.1 ≠ D2 := fun p hp => (List.mem_append.mp hp).elim (hX9 p) (hoC9 p)
        refine asg_pair rfl rfl rfl rfl (by decide) F11 N11 hC ?_ (.tail _ (.head _)) ?_
        · exact allC (Nat.ne_of_lt hDC2) (allC (hTC) (fun p hp => (hXY p hp).1))
        intro oC3 m3 h12 tk12 hC3 e1 e2 _ F12 N12
        clear F11 N11 hC
        refine tests_one ?_
        generalize hY2 : ((_, listOf (wvs.drop (1 : Int).toNat).toArray 0) :: (lf, listOf ([] : List Value).toArray kl') :: (dl, dictOf (lexDict w ln (.ref st) pb t1 t2' t3 t4 t5 t6) 4) :: (pb, listOf ([] : List Value).toArray kp2) :: (wl, listOf (List.toArray wvs) kw) :: Y) = X2 at N12 hd9 hX9 off9 hlt9'
        k_steps
        · rename Fr gG LG _ _ => F13
          rename News gG LG _ _ => N13
          exact TEnd.intro X2 F13 N13 (.head _) (.tail _ (.head _)) (fun p hp => .tail _ (.tail _ (.tail _ (show p ∈ X2 ++ own2 from List.mem_append_left _ hp)))) (fun p hp => .tail _ (.tail _ (.tail _ (show p ∈ X2 ++ own2 from List.mem_append_right _ hp)))) hC3 hd9 hX9 off9 ⟨rfl, rfl⟩
      · clear F10 N10 hC
        rintro ws m₂ X oC' h11 tk11 hp57 hC F11 N11 hX9
        try (refine letQS ?_; intro Q58 s58)
        obtain ⟨rfl, rfl⟩ := hp57
        refine ⟨h11, tk11, oC', _, [], _, rfl, F11, hC, N11, fun p hp => (hX9 p hp).1, fun h12 F12 N12 => ?_⟩
        clear F11 N11 hC
        k_steps
        rename News h₀ L _ _ => N13
        have efin : (wvs.length : Int) = fillF below tabs sizes := by rw [hwl3]; exact hgo
        rw [efin]
        refine ret kp2 kl' t2' _ _ _ (by k_asm) (fun p hp => N13 p ?_)
        rcases List.mem_cons.mp hp with rfl | hp
        · k_mem
        · rcases List.mem_cons.mp hp with rfl | hp
          · k_mem
          · rcases List.mem_cons.mp hp with rfl | hp
            · k_mem
            · have hp := m1 p hp
              k_mem
    | cons word tw hSp =>
      rename_i pvs q
      rename Fr gG LG _ _ => F5
      rename News gG LG _ _ => N5
      have hw1 := hqw word (.head _)
      refine wpAny_call (pop_code (w := w) (lx := lx) (dl := dl) (pb := pb) (iv := .ref st) (ln := ln) (t1 := t1) (t2 := t2) (t3 := t3) (t4 := t4) (t5 := t5) (t6 := t6) (kd := 4) (kp := kp2) (v := .str word tw) (pvs := pvs) (news := (wl, listOf (List.toArray wvs) kw) :: (lf, listOf ([] : List Value).toArray kl) :: (dl, dictOf (lexDict w ln (.ref st) pb t1 t2 t3 t4 t5 t6) 4) :: Y) (by k_asm) F5 (by k_asm) (fun p hp => N5 p ?_) (by k_asm) rfl rfl (by dsimp only [Around.deeper]; omega) (.tail _ (.tail _ (.tail _ b0))) (.tail _ (.tail _ (.head _))) ?_ ?_ ?_)
      · revert p; exact allC (.tail _ (.head _)) (allC (.head _) (fun p hp => .tail _ (.tail _ hp)))
      · exact allC (Nat.ne_of_gt w1) (allC (fun e => hne5 e.symm) (allC (fun e => hne6 e.symm) (fun p hp => a2 p hp)))
      · rw [List.size_toArray]; simp only [List.length_cons] at hql hpl; omega
      intro h6 tk6 F6 N6
      clear F5 N5
      dsimp only [lexDict, List.cons_append, List.nil_append] at N6
      have e9 : 999 - i = (999 - (i + 1)) + 1 := by omega
      k_steps
      · rename (word == Str.ofString "") = true => he
        exfalso
        have e : word = Str.ofString "" := by simpa using he
        rw [e] at hw1
        exact absurd hw1.1 (by decide +kernel)
      · rename (tvs.length : Int) < _ => hlt9
        rw [e9, fillGo, if_pos (by rw [hkt]; omega)] at hgo
        rename Fr gG LG _ _ => F7
        rename News gG LG _ _ => N7
        unfold Hold
        rw [List.push_toArray] at N7
        refine InvEndG.intro (nx := (wl, listOf (wvs ++ [Value.str word tw]).toArray (kw + 1)) :: (pb, listOf (List.toArray pvs) (kp2 + 1)) :: (lf, listOf ([] : List Value).toArray kl) :: (dl, dictOf (lexDict w ln (.ref st) pb t1 t2 t3 t4 t5 t6) 4) :: news) F7 N7 ⟨⟨pvs, q, wvs ++ [Value.str word tw], whole ++ [word], kw + 1, kp2 + 1, rfl, hSp, strs_snoc hSw _ _, hgo, fun x hx => hqw x (.tail _ hx), ?_, ?_⟩, ?_⟩ hoff (fun p hp => ?_) (fun p hp => ?_)
        rotate_right 2
        · revert p; exact allC (.tail _ (.head _)) (allC (.head _) (allC (.tail _ (.tail _ (.head _))) (allC (.tail _ (.tail _ (.tail _ (.head _)))) (fun p hp => .tail _ (.tail _ (.tail _ (.tail _ (m1 p hp))))))))
        · exact .tail _ (.tail _ (.tail _ (.tail _ (m2 p hp))))
        · simp only [List.length_cons] at hql; omega
        · simp only [List.length_append, List.length_singleton]; omega
        · walk_at "off"
      · rename ¬ (tvs.length : Int) < _ => hlt9
        rw [e9, fillGo, if_neg (by rw [hkt]; omega)] at hgo
        rename Fr gG LG _ _ => F7
        rename News gG LG _ _ => N7
        unfold Hold
        refine wpAny_For ?_
        k_steps
        refine zip_K (c1 := .str (Str.ofString "uvwxy") _) (c2 := .list zr zvs nz) F7 N7 (fun _ hp => nomatch hp) ?_ (show (Str.ofString "uvwxy").cps.all (· < 128) = true by decide +kernel) trivial ?_
        · intro p hp
          rw [List.mem_singleton.mp hp]
          exact .tail _ (.tail _ (.tail _ (.tail _ b3)))
        intro z TI TO i1 i2 zown h8 hZA hZO F8 N8 hltz
        clear F7 N7
        obtain ⟨za, zb, zo1, zo2, rfl, hz1, hz2⟩ := id hZO
        refine wpAny_pyIter_zip (N8 _ (.head _)).1 ?_
        refine forIt (LIt.zip rfl hZA (c1 := .str (Str.ofString "uvwxy") _) (c2 := .list zr zvs nz)) [Str.ofString "sign", Str.ofString "size"] (fun k _ X => FilI w wl pb lf dl st kl kw wvs ln t1 t2 t3 t4 t5 t6 Y below tabs sizes q word k X) F8 N8 hZO ?_ ?_ ?_ ?_ ?_
        · intro p hp
          rcases List.mem_append.mp hp with hp | hp
          · nomatch hp
          · rw [List.mem_singleton.mp hp]
            exact .tail _ (.tail _ (.tail _ (.tail _ b3)))
        · intro q hq p hp
          exact Nat.ne_of_lt (hltz q hq p hp)
        · exact ⟨pvs, kp2 + 1, rfl, by simpa [followN] using hSp⟩
        · rintro k v ext m₁ X own2 h9 tk9 hk9 hp59 hp60 F9 N9 hd9 off9 hlt9'
          try (refine letQS ?_; intro Q61 s61)
          refine exE3 hp59 ?_; intro T x y hq69
          refine anE4 hq69 ?_; clear hq69; intro hr67 hr68 ho69 hy
          clear hp59
          subst hr67
          subst hr68
          obtain ⟨cc, cu, hcc, rfl⟩ := ho69
          obtain ⟨pvs', kp', rfl, hS'⟩ := hp60
          obtain ⟨sz, tz, rfl, hsz⟩ := intsAt hIz hy
          simp only [List.map, over] at F9
          simp only [List.cons_append, List.nil_append] at N9
          have hsg := sign_at hcc
          have hlen1 : (⟨#[cc]⟩ : Str).length = 1 := rfl
          have c0 : (lx, instObj 73 dl) ∈ Y ++ own2 := List.mem_append_left _ b0
          have c1 : (ab, listOf bvs.toArray nb) ∈ Y ++ own2 := List.mem_append_left _ b1
          have c2 : (at_, listOf tvs.toArray nt) ∈ Y ++ own2 := List.mem_append_left _ b2
          have d2 : ∀ p ∈ Y ++ own2, p.1 ≠ pb := fun p hp => (List.mem_append.mp hp).elim (a2 p) fun hp => (off9 p hp _ (.head _)).symm
          have d5 : ∀ p ∈ Y, p ∈ Y ++ own2 := fun p hp => List.mem_append_left _ hp
          have d6 : ∀ p ∈ own2, p ∈ Y ++ own2 := fun p hp => List.mem_append_right _ hp
          have hTlt : ∀ p ∈ (pb, listOf (List.toArray pvs') kp') :: (wl, listOf (List.toArray wvs) kw) :: (lf, listOf ([] : List Value).toArray kl) :: (dl, dictOf (lexDict w ln (.ref st) pb t1 t2 t3 t4 t5 t6) 4) :: (Y ++ own2), p.1 < T := hlt9' _ (.head _)
          generalize hY2 : Y ++ own2 = Y2 at N9 c0 c1 c2 d2 d5 d6 hTlt
          refine asgF_pair (L := LG) rfl rfl rfl rfl rfl F9 N9 (.head _) (fun h10 tk10 F10 N10 => ?_)
          clear F9 N9
          dsimp only [lexDict, List.cons_append, List.nil_append] at N10
          have hsl := slice1_len hw1.1
          have hzp : (signsF.zip sizes)[k]? = some (⟨#[cc]⟩, sz) := by
            rw [List.getElem?_zip_eq_some]; exact ⟨hsg, hsz⟩
          have hfol : followN below tabs sizes word (k + 1) = followN below tabs sizes word k ++ (if (decide (Txt.count word ⟨#[cc]⟩ < sz) && fitsF below tabs (Txt.slice word (some 1) none ++ ⟨#[cc]⟩)) = true then [word ++ ⟨#[cc]⟩] else []) := by
            unfold followN
            rw [List.take_add_one, hzp, List.filter_append, List.map_append]
            congr 1
            simp only [Option.toList, List.filter_cons, List.filter_nil]
            split <;> rfl
          have wl6 : word.length ≤ 5 := by omega
          have fin : ∀ (h11 : Heap) (tk11 kp3 : Nat) (pvs3 : List Value) (mm : Str → Option Value) (all : List (Addr × Obj)), Fr gG LG h11 mm → (∀ z, z ∉ [Str.ofString "sign", Str.ofString "size"] → mm z = over [] mm z) → True := fun _ _ _ _ _ _ _ _ => trivial
          clear fin
          k_steps
          · unfold Hold
            rename Txt.count word ⟨#[cc]⟩ < sz => hct
            rename Fr gG LG _ _ => F11
            rename News gG LG _ _ => N11
            refine wpAny_call (fits_code (by k_asm) F11 (by k_asm) N11 (by k_asm) rfl rfl (by dsimp only [Around.deeper]; omega) (by rw [Str.length_append]; omega) (by rw [Str.length_append]; omega) (.tail _ (.tail _ (.tail _ (.tail _ (.tail _ c1))))) (.tail _ (.tail _ (.tail _ (.tail _ (.tail _ c2))))) hI (by rw [Str.length_append]; omega) hbl (by rw [Str.length_append]; omega) (fun i v e => ?_) ?_)
            · obtain ⟨r, vs, n, hv, hm, hi2⟩ := hrow i v e
              exact ⟨r, vs, n, hv, .tail _ (.tail _ (.tail _ (.tail _ (.tail _ (d5 _ (m1 _ hm)))))), hi2⟩
            intro h12 tk12 F12 N12
            clear F11 N11
            k_steps
            · unfold Hold
              rename fitsF _ _ _ = true => hfit
              rename Fr gG LG _ _ => F13
              rename News gG LG _ _ => N13
              refine wpAny_call (push_code (w := w) (lx := lx) (dl := dl) (pb := pb) (iv := .ref st) (ln := ln) (t1 := t1) (t2 := t2) (t3 := t3) (t4 := t4) (t5 := t5) (t6 := t6) (kd := 4) (kp := kp') (pvs := pvs') (news := (T, pairObj (.str ⟨#[cc]⟩ cu) (.int sz tz)) :: (wl, listOf (List.toArray wvs) kw) :: (lf, listOf ([] : List Value).toArray kl) :: (dl, dictOf (lexDict w ln (.ref st) pb t1 t2 t3 t4 t5 t6) 4) :: Y2) (by k_asm) F13 (by k_asm) (fun p hp => N13 p ?_) (by k_asm) rfl rfl (by dsimp only [Around.deeper]; omega) (.tail _ (.tail _ (.tail _ (.tail _ c0)))) (.tail _ (.tail _ (.tail _ (.head _)))) ?_ ?_ ?_)
              · revert p; exact allC (.tail _ (.head _)) (allC (.head _) (fun p hp => .tail _ (.tail _ hp)))
              · exact allC (Nat.ne_of_gt (hTlt _ (.head _))) (allC (Nat.ne_of_gt w1) (allC (fun e => hne5 e.symm) (allC (fun e => hne6 e.symm) (fun p hp => d2 p hp))))
              · have z := hS'.length
                rw [List.size_toArray, sizeLine_eq, z]
                have z2 : (followN below tabs sizes word k).length ≤ 5 := follow_len _ _ _ _ _
                simp only [List.length_append, List.length_cons] at hql hpl ⊢
                omega
              intro h14 tk14 F14 N14
              clear F13 N13
              k_steps
              unfold Hold
              show FEnd _ _ _ _ _ _ _ _ _
              rename Fr gG LG _ _ => F14
              rename News gG LG _ _ => N14
              refine FEnd.intro ((pb, listOf (List.toArray (pvs' ++ [Value.str (word ++ ⟨#[cc]⟩) _])) (kp' + 1)) :: (wl, listOf (List.toArray wvs) kw) :: (lf, listOf ([] : List Value).toArray kl) :: (dl, dictOf (lexDict w ln (.ref st) pb t1 t2 t3 t4 t5 t6) 4) :: Y) F14 N14 (allC (.head _) (allC (.tail _ (.tail _ (.head _))) (allC (.tail _ (.tail _ (.tail _ (.head _)))) (allC (.tail _ (.tail _ (.tail _ (.tail _ (.head _))))) fun p hp => .tail _ (.tail _ (.tail _ (.tail _ (.tail _ (d5 p hp))))))))) (fun p hp => (.tail _ (.tail _ (.tail _ (.tail _ (.tail _ (d6 p hp))))))) ?_ ?_ ⟨_, _, rfl, ?_⟩ ?_
              · intro p hp
                rcases List.mem_append.mp hp with hp | hp
                · nomatch hp
                · rw [List.mem_singleton.mp hp]
                  exact .tail _ (.tail _ (.tail _ (.tail _ b3)))
              · intro q hq p hp
                revert p; exact allC (off9 q hq (pb, listOf (List.toArray pvs') kp') (.head _)) (fun p hp => off9 q hq p (.tail _ hp))
              · rw [hfol, if_pos (by rw [decide_eq_true hct, hfit]; rfl), ← List.append_assoc]; exact strs_snoc hS' _ _
              · walk_at "off"
            · rename fitsF _ _ _ = false => hfit
              unfold Hold
              show FEnd _ _ _ _ _ _ _ _ _
              rename Fr gG LG _ _ => F14
              rename News gG LG _ _ => N14
              refine FEnd.intro ((pb, listOf (List.toArray (pvs')) (kp')) :: (wl, listOf (List.toArray wvs) kw) :: (lf, listOf ([] : List Value).toArray kl) :: (dl, dictOf (lexDict w ln (.ref st) pb t1 t2 t3 t4 t5 t6) 4) :: Y) F14 N14 (allC (.tail _ (.head _)) (allC (.tail _ (.tail _ (.head _))) (allC (.tail _ (.tail _ (.tail _ (.head _)))) (allC (.tail _ (.tail _ (.tail _ (.tail _ (.head _))))) fun p hp => .tail _ (.tail _ (.tail _ (.tail _ (.tail _ (d5 p hp))))))))) (fun p hp => (.tail _ (.tail _ (.tail _ (.tail _ (.tail _ (d6 p hp))))))) ?_ ?_ ⟨_, _, rfl, ?_⟩ ?_
              · intro p hp
                rcases List.mem_append.mp hp with hp | hp
                · nomatch hp
                · rw [List.mem_singleton.mp hp]
                  exact .tail _ (.tail _ (.tail _ (.tail _ b3)))
              · intro q hq p hp
                revert p; exact allC (off9 q hq (pb, listOf (List.toArray pvs') kp') (.head _)) (fun p hp => off9 q hq p (.tail _ hp))
              · rw [hfol, if_neg (by rw [decide_eq_true hct, hfit]; decide), List.append_nil]; exact hS'
              · walk_at "off"
          · rename ¬ Txt.count word ⟨#[cc]⟩ < sz => hct
            unfold Hold
            show FEnd _ _ _ _ _ _ _ _ _
            rename Fr gG LG _ _ => F14
            rename News gG LG _ _ => N14
            refine FEnd.intro ((pb, listOf (List.toArray (pvs')) (kp')) :: (wl, listOf (List.toArray wvs) kw) :: (lf, listOf ([] : List Value).toArray kl) :: (dl, dictOf (lexDict w ln (.ref st) pb t1 t2 t3 t4 t5 t6) 4) :: Y) F14 N14 (allC (.tail _ (.head _)) (allC (.tail _ (.tail _ (.head _))) (allC (.tail _ (.tail _ (.tail _ (.head _)))) (allC (.tail _ (.tail _ (.tail _ (.tail _ (.head _))))) fun p hp => .tail _ (.tail _ (.tail _ (.tail _ (.tail _ (d5 p hp))))))))) (fun p hp => (.tail _ (.tail _ (.tail _ (.tail _ (.tail _ (d6 p hp))))))) ?_ ?_ ⟨_, _, rfl, ?_⟩ ?_
            · intro p hp
              rcases List.mem_append.mp hp with hp | hp
              · nomatch hp
              · rw [List.mem_singleton.mp hp]
                exact .tail _ (.tail _ (.tail _ (.tail _ b3)))
            · intro q hq p hp
              revert p; exact allC (off9 q hq (pb, listOf (List.toArray pvs') kp') (.head _)) (fun p hp => off9 q hq p (.tail _ hp))
            · rw [hfol, if_neg (by rw [decide_eq_false hct]; exact Bool.false_ne_true), List.append_nil]; exact hS'
            · walk_at "off"
        · rintro m₁ X2 h9 tk9 hp62 F9 N9
          try (refine letQS ?_; intro Q63 s63)
          obtain ⟨pvs', kp', rfl, hS'⟩ := hp62
          simp only [List.map, over] at F9
          have h55 : (Str.ofString "uvwxy").cps.size = 5 := by decide +kernel
          rw [follow_all (by show min (Str.ofString "uvwxy").cps.size zvs.length = _; rw [h55, hzvl])] at hS'
          k_steps
          unfold Hold
          rename Fr gG LG _ _ => F10
          rename News gG LG _ _ => N10
          refine InvEndG.intro (nx := (wl, listOf (List.toArray wvs) kw) :: (pb, listOf (List.toArray pvs') kp') :: (lf, listOf ([] : List Value).toArray kl) :: (dl, dictOf (lexDict w ln (.ref st) pb t1 t2 t3 t4 t5 t6) 4) :: news) F10 N10 ⟨⟨pvs', q ++ followF below tabs sizes word, wvs, whole, kw, kp', rfl, hS', hSw, hgo, fun x hx => ?_, ?_, ?_⟩, ?_⟩ hoff (fun p hp => ?_) (fun p hp => ?_)
          rotate_right 2
          · revert p; exact allC (.tail _ (.head _)) (allC (.head _) (allC (.tail _ (.tail _ (.head _))) (allC (.tail _ (.tail _ (.tail _ (.head _)))) (fun p hp => .tail _ (.tail _ (.tail _ (.tail _ (m1 p hp))))))))
          · exact .tail _ (.tail _ (.tail _ (.tail _ (m2 p hp))))
          · rcases List.mem_append.mp hx with hx | hx
            · exact hqw x (.tail _ hx)
            · rw [follow_word hx]; omega
          · have z : (followF below tabs sizes word).length ≤ 5 := by
              rw [← follow_all (n := min 5 sizes.length) rfl]; exact follow_len _ _ _ _ _
            simp only [List.length_append, List.length_cons] at hql ⊢; omega
          · omega
          · walk_at "off"
  · rintro m₁ nx h tk hp64 F4 N4
    try (refine letQS ?_; intro Q65 s65)
    obtain ⟨pvs, q, wvs, whole, kw, kp2, rfl, hSp, hSw, hgo, hqw, hql, hwl2⟩ := hp64
    exfalso
    have z : fillGo below tabs sizes (999 - 999) q whole = -1 := rfl
    rw [z] at hgo
    rw [← hgo] at hnn
    exact absurd hnn (by decide)
end
end Mine
end
-- G16
section
theorem Mine.resetG16 : True := by (w_top off; trivial)
open PySem PySem.W PyProof.Rows PyProof.Rows.LCg
set_option Elab.async false
set_option maxRecDepth 100000
set_option maxHeartbeats 8000000
namespace Mine
theorem item_lastK {prog : Program} {w : World} {A : Around} {E : Value → Shared → Prop} {s : Shared} {value slice : PySem.Expr} {l : Addr} {vs : List Value} {u : Tok} {v : Value} {Q : Value → Shared → Prop} (hl : s.heap.IsList l vs.toArray) (hx : vs.getLast? = some v) (h : Q v s)
    (hs : subscripted slice false (.ref l) (.int (-1) u) = operate [.ref l, .int (-1) u] (getItem (.ref l) (.int (-1) u)) := by with_unfolding_all rfl) :
    wpAny (model prog w) A (subscriptTail value slice (.ref l) (.int (-1) u)) Q E s := by
  k_with_none
  k_with "om" => with_reducible first | exact Mine.om127 | exact Mine.om514 (by assumption) | fail
  have hne : vs ≠ [] := by intro q; rw [q] at hx; cases hx
  have hlen : 0 < vs.length := List.length_pos_iff.mpr hne
  refine tail_any hl.typeIs slot_list_getitem.lookup (wpAny_getItem_list_neg hl (by decide) (by rw [List.size_toArray]; omega) (by decide) ?_ h) hs
  rw [List.size_toArray]
  have e : ((-1 : Int) + (vs.length : Int)).toNat = vs.length - 1 := by omega
  rw [e, List.getElem?_toArray, ← List.getLast?_eq_getElem?]
  exact hx
theorem ints_last : ∀ {vs : List Value} {ns : List Int}, IntsAre vs ns → ns ≠ [] → ∃ t, vs.getLast? = some (.int (ns.getLastD 0) t) := by
  intro vs ns h
  induction h with
  | nil => exact fun q => absurd rfl q
  | cons n t r ih =>
    intro _
    cases r with
    | nil => exact ⟨t, rfl⟩
    | cons n2 t2 h =>
      obtain ⟨t', e⟩ := ih (fun q => nomatch q)
      exact ⟨t', List.getLast?_cons_cons.trans e⟩
theorem ints_init : ∀ {vs : List Value} {ns : List Int}, IntsAre vs ns → IntsAre vs.dropLast ns.dropLast := by
  intro vs ns h
  induction h with
  | nil => exact .nil
  | cons n t r ih =>
    cases r with
    | nil => exact .nil
    | cons n2 t2 h => exact .cons n t ih
/-- lists of ints, each in the ledger -/
inductive LLAre (T : List (Addr × Obj)) : List Value → List (List Int) → Prop
  | nil : LLAre T [] []
  | cons {a : Addr} {vs : List Value} {l : List Int} {n : Nat} {r : List Value} {ls : List (List Int)} : (a, listOf vs.toArray n) ∈ T → IntsAre vs l → LLAre T r ls → LLAre T (.ref a :: r) (l :: ls)
theorem LLAre.mono {T T' : List (Addr × Obj)} (h : ∀ p ∈ T, p ∈ T') : ∀ {vs : List Value} {ls : List (List Int)}, LLAre T vs ls → LLAre T' vs ls := by
  intro vs ls r
  induction r with
  | nil => exact .nil
  | cons hm hi _ ih => exact .cons (h _ hm) hi ih
theorem LLAre.snoc {T : List (Addr × Obj)} {a : Addr} {ivs : List Value} {l : List Int} {n : Nat} (hm : (a, listOf ivs.toArray n) ∈ T) (hi : IntsAre ivs l) : ∀ {vs : List Value} {ls : List (List Int)}, LLAre T vs ls → LLAre T (vs ++ [.ref a]) (ls ++ [l]) := by
  intro vs ls r
  induction r with
  | nil => exact .cons hm hi .nil
  | cons h h' _ ih => exact .cons h h' ih
theorem LLAre.length {T : List (Addr × Obj)} : ∀ {vs : List Value} {ls : List (List Int)}, LLAre T vs ls → vs.length = ls.length := by
  intro vs ls r
  induction r with
  | nil => rfl
  | cons _ _ _ ih => exact congrArg Nat.succ ih
theorem LLAre.at {T : List (Addr × Obj)} : ∀ {vs : List Value} {ls : List (List Int)}, LLAre T vs ls → ∀ {i : Nat} {v : Value}, vs[i]? = some v → ∃ a ivs l n, v = .ref a ∧ ls[i]? = some l ∧ (a, listOf ivs.toArray n) ∈ T ∧ IntsAre ivs l := by
  intro vs ls r
  induction r with
  | nil => exact fun e => nomatch e
  | cons hm hi _ ih =>
    intro i v e
    cases i with
    | zero => exact ⟨_, _, _, _, (Option.some.inj e).symm, rfl, hm, hi⟩
    | succ i => exact ih e
noncomputable def leastF (shape : List Int) (k : Nat) : Int := if k + 1 < shape.length then shape.getD (k + 1) 0 else 0
noncomputable def partsF (shape : List Int) (k : Nat) : List Int := (List.range (shape.getD k 0 + 1 - leastF shape k).toNat).map fun (j : Nat) => leastF shape k + (j : Int)
noncomputable def smallerN (shape : List Int) : Nat → List (List Int)
  | 0 => [[]]
  | n + 1 => (smallerN shape n).flatMap fun one => (partsF shape n).map fun part => one ++ [part]
noncomputable def waysF : Nat → List Int → List Int → Int
  | 0, shape, _ => if shape.sum = 0 then 1 else 0
  | n + 1, shape, sizes => (((smallerN shape shape.length).filter fun one => shape.sum - one.sum == sizes.getLastD 0).map fun one => waysF n one sizes.dropLast).sum
theorem pyIter_list_K {A : Around} {E : Value → Shared → Prop} {h₀ : Heap} {L l : Addr} {m : Str → Option Value} {news : List (Addr × Obj)} {s : Shared} {prog : Program} {w : World} {vs : List Value} {k : Nat} {Q : Value → Shared → Prop} (F : Fr h₀ L s.heap m) (N : News h₀ L s.heap news) (hl : (l, listOf vs.toArray k) ∈ news)
    (h : ∀ I oI h', LIter oI l 0 → Fr h₀ L h' m → News h₀ L h' ((I, oI) :: news) → (∀ p ∈ news, p.1 < I) → Q (.ref I) { s with heap := h' }) : wpAny (model prog w) A (pyIter (.ref l)) Q E s := by
  refine wpAny_pyIter_list (News.isList N hl) ?_
  exact h _ _ _ ⟨rfl, rfl⟩ (F.push _) (N.push F _) fun p hp => Heap.lt_size (N p hp).1
theorem add_K {A : Around} {E : Value → Shared → Prop} {h₀ : Heap} {L l b : Addr} {m : Str → Option Value} {news : List (Addr × Obj)} {s : Shared} {prog : Program} {w : World} {vs ws : List Value} {Q : Value → Shared → Prop} (F : Fr h₀ L s.heap m) (N : News h₀ L s.heap news) (hl : s.heap.IsList l vs.toArray) (hb : s.heap.IsList b ws.toArray)
    (h : ∀ D h', Fr h₀ L h' m → News h₀ L h' ((D, listOf (vs ++ ws).toArray 0) :: news) → (∀ p ∈ news, p.1 < D) → Q (.ref D) { s with heap := h' }) (hsz : vs.length + ws.length ≤ sizeLine) : wpAny (model prog w) A (binaryOp .Add (.ref l) (.ref b)) Q E s :=
  add_lists F N hl hb (fun h' F' N' => h _ h' F' N' fun p hp => Heap.lt_size (N p hp).1) hsz
theorem least_small {shape : List Int} {i : Nat} (h : ∀ x ∈ shape, 0 ≤ x ∧ x ≤ 5) : 0 ≤ leastF shape i ∧ leastF shape i ≤ 5 := by
  k_with_none
  k_with "om" => with_reducible first | exact Mine.om523 | fail
  unfold leastF
  split
  · rename_i q
    exact h _ (by rw [List.getD_eq_getElem?_getD, List.getElem?_eq_getElem q]; exact List.getElem_mem q)
  · omega
theorem parts_small {shape : List Int} {i : Nat} {x : Int} (h : ∀ x ∈ shape, 0 ≤ x ∧ x ≤ 5) (hx : x ∈ partsF shape i) : 0 ≤ x ∧ x ≤ 5 := by
  k_with_none
  k_with "om" => with_reducible first | exact Mine.om182 (by assumption) (by assumption) (by assumption) | fail
  obtain ⟨j, hj, rfl⟩ := List.mem_map.mp hx
  have hj := List.mem_range.mp hj
  have h1 := least_small (i := i) h
  have h2 : shape.getD i 0 ≤ 5 := by
    rcases Nat.lt_or_ge i shape.length with q | q
    · exact (h _ (by rw [List.getD_eq_getElem?_getD, List.getElem?_eq_getElem q]; exact List.getElem_mem q)).2
    · rw [List.getD_eq_getElem?_getD, List.getElem?_eq_none q]; decide
  omega
theorem smaller_small {shape : List Int} (h : ∀ x ∈ shape, 0 ≤ x ∧ x ≤ 5) : ∀ {n : Nat} {l : List Int}, l ∈ smallerN shape n → l.length = n ∧ ∀ x ∈ l, 0 ≤ x ∧ x ≤ 5 := by
  intro n
  induction n with
  | zero =>
    intro l hl
    rw [List.mem_singleton.mp hl]
    exact ⟨rfl, fun _ hx => nomatch hx⟩
  | succ n ih0 =>
    intro l hl
    obtain ⟨one, h1, h2⟩ := List.mem_flatMap.mp hl
    obtain ⟨part, h3, rfl⟩ := List.mem_map.mp h2
    have ih := ih0 h1
    refine ⟨by simp [ih.1], fun x hx => ?_⟩
    rcases List.mem_append.mp hx with hx | hx
    · exact ih.2 x hx
    · rw [List.mem_singleton.mp hx]; exact parts_small h h3
noncomputable def WaysOk (w : World) (n : Nat) : Prop :=
  ∀ (p : Program) (loose : List Str) (mean : ExcName → Option Value) (mg mb : Str → Option Value) (dp un : Nat) (gd : Option (List Code)) (A₀ : Around) (env : Env) (outer : List Env) (base h₀ : Heap) (L : Addr) (m : Str → Option Value) (news : List (Addr × Obj)) (s : Shared) (R : Result → Shared → Prop) (lr zr : Addr) (svs zvs : List Value) (nr nz : Nat) (shape sizes : List Int),
    Below A₀ base outer h₀ → Fr h₀ L s.heap m → (hd.heap_39 w.params).In h₀ → News h₀ L s.heap news → Top p loose mean mg mb h₀ → env.frame = some L → env.scope.kind = .function → dp + n + 2 < recursionLimit → un + 20 * n + 200 < cLine →
    (lr, listOf svs.toArray nr) ∈ news → (zr, listOf zvs.toArray nz) ∈ news → IntsAre svs shape → IntsAre zvs sizes → sizes.length = n → n ≤ 100 → shape.length ≤ 5 → (∀ x ∈ shape, 0 ≤ x ∧ x ≤ 5) →
    (∀ t h' tk', Fr h₀ L h' m → News h₀ L h' news → R (.ok (.ret (.int (waysF n shape sizes) t))) { s with heap := h', toks := tk' }) →
    codeAny (model PySem.Challenge.rw_rs0134_01.row.prog w) (Ar dp un gd env outer) (.call (.ref 191) ⟨[.ref lr, .ref zr], []⟩) R s
noncomputable def MergeP (h₀ : Heap) (L : Addr) (m : Str → Option Value) (g : Obj → List (Addr × Obj)) (v : Int) (s : Shared) (f : Flow) (s2 : Shared) : Prop :=
  f = .next ∧ ∃ h6 o tk tl, s2 = { s with heap := h6, toks := tk } ∧ Fr h₀ L h6 m ∧ News h₀ L h6 (g o) ∧ o.data = .cell (some (.int v tl))
theorem merge {M : Model} {A : Around} {E : Value → Shared → Prop} {t : Sem Flow} {Q : Flow → Shared → Prop} {s : Shared} {h₀ h : Heap} {L : Addr} {m : Str → Option Value} (_ : Fr h₀ L h m) (g : Obj → List (Addr × Obj)) (v : Int)
    (walk : wpAny M A t (MergeP h₀ L m g v s) E s) (rest : ∀ h6 o tk tl, Fr h₀ L h6 m → News h₀ L h6 (g o) → o.data = .cell (some (.int v tl)) → Q .next { s with heap := h6, toks := tk }) : wpAny M A t Q E s :=
  wpAny_mono walk (fun f s2 h => by obtain ⟨rfl, h6, o, tk, tl, rfl, F, N, d⟩ := h; exact rest h6 o tk tl F N d) (fun _ _ h => h)
theorem ways_code (w : World) (n : Nat) : WaysOk w n := by
  k_with "execs cons" => (k_here; (fail_if_success with_reducible (rename Mine.NoLet => kL)); (with_reducible refine wpAny_execs_cons ?_); (try dsimp only); refine Mine.letQS ?_; intro _ _)
  k_with "storeName" => (k_here; (fail_if_success with_reducible (rename Mine.NoStore => kL)); k_dflt (refine' Mine.storeLet (by k_asm) (by k_asm) ?_ (by rfl) (by rfl); k_whole; intro _ _ _ _; (try k_sweep)))
  k_with "off" => (intro _; intros; repeat (first | exact rfl | (refine Eq.trans (if_neg (by first | assumption | (refine' Mine.ne_of_out (by assumption) (by repeat (first | with_reducible exact List.mem_cons_self | refine List.mem_cons_of_mem _ ?_))))) ?_)))
  k_with "unf" => (refine' code_defC ?enk1 ?enk2 ?enk3 ?enk4 ?enk5 ?enkA ?enkF ?enkK ?enk6 ?enk7 ?enk8 ?enk9 ?enkB ?enkD ?_ ?enc2 ?enc3 ?enc4; (case enkA => exact rfl); (case enkF => assumption); (case enkK => assumption); (case enk1 => k_asm); (case enk2 => k_asm); (case enk3 => k_asm); (case enk4 => k_asm); (case enk5 => k_asm); (case enk6 => k_is); (case enk7 => k_is); (case enk8 => first | assumption | (show _ < recursionLimit; dsimp only; omega) | ktr_room); (case enk9 => exact BindsTo.of_eq rfl); (case enkB => exact rfl); (case enkD => decide +kernel); (case enc2 => exact rfl); (case enc3 => exact rfl); (case enc4 => exact rfl); k_whole; intro _ _ _ _ _ _ _ zN' zY' zB' _ _ zl1; (try k_lt zl1); k_cells zY'; (try simp only [List.cons_append, List.nil_append] at zN'); (try dsimp only); (try k_lift zB'); (try k_fold))
  k_with "enter" => (refine' code_def ?enk1 ?enk2 ?enk3 ?enk4 ?enk5 ?enkA ?enkF ?enkK ?enk6 ?enk7 ?enk8 ?enk9 ?enkB ?_ ?enc2 ?enc3 ?enc4 ?enc5; (case enkA => exact rfl); (case enkF => assumption); (case enkK => assumption); (case enk1 => k_asm); (case enk2 => k_asm); (case enk3 => k_asm); (case enk4 => k_asm); (case enk5 => k_asm); (case enk6 => k_is); (case enk7 => k_is); (case enk8 => first | assumption | (show _ < recursionLimit; dsimp only; omega) | ktr_room); (case enk9 => exact BindsTo.of_eq rfl); (case enc5 => decide); (case enkB => exact locs rfl); (case enc2 => exact rfl); (case enc3 => exact rfl); (case enc4 => exact rfl); k_whole; intro _ _ _ _ _ _ _ _ _; (try dsimp only); (try k_fold))
  k_with "InvEndG" => (refine Hold.mk ?_)
  k_with "pyIter ref" => (refine Hold.mk ?_)
  k_with "call ref" => (k_here; (with_reducible show wpAny _ _ (call (Value.ref 28) _) _ _ _); (with_reducible refine wpAny_call (strcoll_code (by k_asm) (by k_asm) (by k_asm) (by k_asm) (by k_asm) rfl rfl (by first | assumption | (dsimp only [Around.deeper]; omega)) ?_)); intro _ _ _ _ _; (try dsimp only))
  k_with "kall" => (first | exact List.forall_mem_nil _ | assumption | exact all_ne_of_lt (by assumption) | (refine' List.forall_mem_cons.mpr ⟨(by k_ne), (by k_all)⟩) | exact tbn_neAll (by assumption) | exact tbn_neAll (And.right (by assumption)) | exact tbn_neAll (And.right (And.right (by assumption))) | exact tbn_neAll (And.right (And.right (And.right (by assumption)))) | exact tbn_neAll (And.right (And.right (And.right (And.right (by assumption))))) | exact tbn_neAll (And.right (And.right (And.right (And.right (And.right (by assumption)))))) | exact tbn_neAll (And.right (And.right (And.right (And.right (And.right (And.right (by assumption))))))) | exact tbn_neAll (And.right (And.right (And.right (And.right (And.right (And.right (And.right (by assumption)))))))) | exact tbn_neAll (And.right (And.right (And.right (And.right (And.right (And.right (And.right (And.right (by assumption))))))))) | exact tbn_neAll (And.right (And.right (And.right (And.right (And.right (And.right (And.right (And.right (And.right (by assumption)))))))))) | exact tbn_neAll (And.right (And.right (And.right (And.right (And.right (And.right (And.right (And.right (And.right (And.right (by assumption))))))))))))
  k_with "call builtin:list.append" => (k_here; (with_reducible show wpAny _ _ (call (Value.builtin _) [Value.ref _, _]) _ _ _); k_dflt (refine' append_K (by k_asm) (by k_asm) (by k_upd) ?_ (by first | assumption | size_fits); k_whole); intro _ _ _; (try k_sweep))
  k_with "brkQ" => (dsimp only [brkQ])
  k_with "BrkEnd" => (refine Hold.mk ?_)
  k_with "call builtin:len" => (k_here; (with_reducible show wpAny _ _ (call (Value.builtin "len") [Value.str _ _]) _ _ _); refine len_str (by omega) ?_)
  k_with "call builtin:len" => (k_here; (with_reducible show wpAny _ _ (call (Value.builtin "len") [Value.ref _]) _ _ _); refine PyProof.Rows.len_list (News.isList (by k_asm) (by k_mem)) (by rw [List.size_toArray]; first | omega | (simp only [List.length_cons]; omega)) ?_; rw [List.size_toArray])
  k_with "call builtin:len" => (k_here; (with_reducible show wpAny _ _ (call (Value.builtin "len") [Value.ref _]) _ _ _); refine PyProof.Rows.len_tuple (News.isTup (by k_asm) (by k_mem)) (by rw [List.size_toArray]; omega) ?_; rw [List.size_toArray])
  k_with "kmem" => (with_reducible first | assumption | exact List.mem_cons_self | (refine List.mem_cons_of_mem _ ?_; k_mem) | (refine List.mem_append_left _ ?_; k_mem))
  k_with "CompSrc" => (refine Hold.mk ?_)
  k_with "exec Assign cons ListComp" => (refine Hold.mk ?_)
  k_with "eval ListComp" => (refine Hold.mk ?_)
  k_with "exec For Name Call cons nil" => (refine Hold.mk ?_)
  k_with "FPost" => (refine Hold.mk ?_)
  k_with "call ref" => (k_here; (with_reducible show wpAny _ _ (call (Value.ref 191) _) _ _ _); refine Hold.mk ?_)
  k_with "call builtin:sum" => (k_here; (with_reducible show wpAny _ _ (call (Value.builtin "sum") [Value.ref _]) _ _ _); refine LSm.sum_ints (by k_asm) (by k_asm) rfl (News.isList (by k_asm) (by with_reducible k_mem)) (by assumption) ?_; intro _ _ _ _ _; (try dsimp only))
  k_with "subscriptTail" => (k_here; (with_reducible show wpAny _ _ (subscriptTail _ _ (Value.ref _) (Value.int _ _)) _ _ _); (with_reducible refine item_litK (News.isList (by k_asm) (by with_reducible k_mem)) (by omega) (by omega) (by with_reducible assumption) ?_))
  k_with "eval Name" => (k_here; (with_reducible show wpAny _ _ (eval (Expr.Name _ _) (compEnvC _ _ _ _)) _ _ _); k_dflt (first | refine LCgL.ld_own (by k_asm) (by k_mem) (by with_reducible assumption) (by with_reducible assumption) ?_ | (refine' lcf_free (by k_asm) (by rfl) (by k_mem) (by k_asm) ?_ (by rfl) (by rfl); k_whole) | refine LCgL.ld_global (by k_asm) (by k_asm) (by k_asm) (by k_is) ?_ | refine LCgL.ld_built (by k_asm) (by k_asm) (by k_asm) (by k_is) (by boot_by_name) (by decide) ?_))
  k_with "compareOp Eq ref ref" => (k_here; (with_reducible show wpAny _ _ (compareOp CmpOp.Eq (Value.ref _) (Value.ref _)) _ _ _); refine ke_eq_ints (News.isList (by k_asm) (by with_reducible k_mem)) (News.isList (by k_asm) (by with_reducible k_mem)) (by assumption) (by first | exact IntsAre.nil | assumption) (by dsimp only [Around.deeper]; omega) ?_)
  k_with "subscriptTail" => (k_here; (with_reducible show wpAny _ _ (subscriptTail _ _ (Value.ref _) (Value.int (-1) _)) _ _ _); (with_reducible refine item_lastK (News.isList (by k_asm) (by with_reducible k_mem)) (by with_reducible assumption) ?_))
  k_with "subscriptTail Name Slice ref ref" => (k_here; (with_reducible show wpAny _ _ (subscriptTail _ (PySem.Expr.Slice _ _ none _) (Value.ref _) (Value.ref _)) _ _ _); k_dflt (refine' kmk_slice (by k_asm) (by k_asm) (by exact News.isList (by k_asm) (by with_reducible k_mem)) (by kmk_part) (by kmk_part) ?_ (by with_unfolding_all rfl) (by kmk_pure) (by rw [List.size_toArray, sizeLine_eq]; omega)); intro _ _ _ _ _; (try dsimp only))
  k_with "om" => with_reducible first | exact Mine.om17 (by assumption) (by assumption) | exact Mine.om123 (by assumption) | exact Mine.om126 (by assumption) | exact Mine.om137 (by assumption) (by assumption) (by assumption) (by assumption) | exact Mine.om49 (by assumption) (by assumption) | exact Mine.om146 (by assumption) (by assumption) | exact Mine.om151 (by assumption) | exact Mine.om157 (by assumption) | exact Mine.om169 (by assumption) (by assumption) | exact Mine.om183 (by assumption) (by assumption) | exact Mine.om188 (by assumption) | exact Mine.om189 (by assumption) | exact Mine.om70 | exact Mine.om202 (by assumption) | exact Mine.om208 (by assumption) (by assumption) | exact Mine.om209 (by assumption) (by assumption) | exact Mine.om214 (by assumption) | exact Mine.om217 (by assumption) (by assumption) | exact Mine.om233 (by assumption) (by assumption) (by assumption) (by assumption) | exact Mine.om245 (by assumption) (by assumption) | exact Mine.om253 | exact Mine.om55 | exact Mine.om279 (by assumption) (by assumption) | exact Mine.om285 (by assumption) | exact Mine.om287 (by assumption) | exact Mine.om291 (by assumption) (by assumption) (by assumption) | exact Mine.om301 (by assumption) | exact Mine.om327 (by assumption) | exact Mine.om331 (by assumption) | exact Mine.om142 (by assumption) | exact Mine.om342 (by assumption) | exact Mine.om350 (by assumption) | exact Mine.om163 (by assumption) | exact Mine.om80 | exact Mine.om71 | exact Mine.om31 (by assumption) | exact Mine.om113 | exact Mine.om198 | exact Mine.om371 (by assumption) | exact Mine.om79 | exact Mine.om117 | exact Mine.om73 | exact Mine.om211 (by assumption) | exact Mine.om185 (by assumption) | exact Mine.om439 (by assumption) | exact Mine.om441 | exact Mine.om271 | exact Mine.om449 | exact Mine.om36 | exact Mine.om149 | exact Mine.om252 | fail
  induction n with
  | zero =>
    intro p loose mean mg mb dp un gd A₀ env outer base h₀ L m news s R lr zr svs zvs nr nz shape sizes B F X N T hf hke hroom hun hlr hzr hI hIz hn hn100 hsl hs5 ret
    obtain rfl : sizes = [] := List.length_eq_zero_iff.mp hn
    revert X; k_fill; intro X
    have hroom0 : dp < recursionLimit := by omega
    have hvl : svs.length = shape.length := hI.length
    k_dflt (k_extra "unf")
    k_steps
    · rename shape.sum = 0 => e
      rw [show waysF 0 shape [] = 1 from if_pos e] at ret
      rename News h₀ L _ _ => N9
      exact ret _ _ _ (by k_asm) (cb_drop N9 fun p hp => .tail _ (.tail _ (.tail _ (.tail _ (.tail _ hp)))))
    · rename shape.sum ≠ 0 => e
      rw [show waysF 0 shape [] = 0 from if_neg e] at ret
      rename News h₀ L _ _ => N9
      exact ret _ _ _ (by k_asm) (cb_drop N9 fun p hp => .tail _ (.tail _ (.tail _ (.tail _ (.tail _ hp)))))
  | succ n ih =>
    intro p loose mean mg mb dp un gd A₀ env outer base h₀ L m news s R lr zr svs zvs nr nz shape sizes B F X N T hf hke hroom hun hlr hzr hI hIz hn hn100 hsl hs5 ret
    revert X; k_fill; intro X
    have hroom0 : dp < recursionLimit := by omega
    have hvl : svs.length = shape.length := hI.length
    have hzvl : zvs.length = sizes.length := hIz.length
    have hne : sizes ≠ [] := by intro q; rw [q] at hn; cases hn
    k_dflt (k_extra "unf")
    rename_i gG LG hG tkG FG FL XX TG o1 o2 o3 o4 d1 d2 d3 d4
    replace d1 : o1.data = .cell none := d1
    replace d2 : o2.data = .cell none := d2
    replace d3 : o3.data = .cell (some (.ref zr)) := d3
    replace d4 : o4.data = .cell (some (.ref lr)) := d4
    k_steps
    unfold Hold
    rename_i a0 _ u0 _ _ a1 _ u1 D _ u2 _ _ F1 N1 _ _
    refine wpAny_For ?_
    k_steps
    unfold Hold
    rename IsRange _ _ _ _ _ _ _ _ => hR
    (try rw [hvl] at hR)
    rename Fr gG LG _ _ => F2
    rename News gG LG _ _ => N2
    have hsm : Builtin.Range.small 0 (↑shape.length) 1 = true := small_one (by omega) (by omega) (by omega) (by omega)
    have hsz : Builtin.Range.rangeSize 0 (↑shape.length) 1 = (shape.length : Int) := by unfold Builtin.Range.rangeSize; rw [if_pos (by decide)]; split <;> omega
    refine pyIter_range_K F2 N2 hR hsm hsz fun I h3 F3 N3 hltI => ?_
    clear F2 N2 hR
    refine forIt (LIt.range rfl (a := 0) (n := shape.length)) [Str.ofString "smaller"] (fun i m₁ X => ∃ D ys kd T o1' o2' v1 v2, X = (D, listOf (List.toArray ys) kd) :: (LG + 1 + 1 + 1 + 1, o1') :: (LG + 1 + 1 + 1, o2') :: (LG + 1 + 1, o3) :: (LG + 1, o4) :: (T ++ news) ∧ m₁ (Str.ofString "smaller") = some (.ref D) ∧ o1'.data = .cell v1 ∧ o2'.data = .cell v2 ∧
      LLAre T ys (smallerN shape i) ∧ ys.length ≤ 6 ^ i ∧ (@LT.lt Nat _ (LG + 1 + 1 + 1 + 1) D) ∧ ∀ p ∈ T, @LT.lt Nat _ (LG + 1 + 1 + 1 + 1) p.1) (own₀ := [(I, _)]) (X₀ := (D, listOf (List.toArray [Value.ref a1]) 0) :: (LG + 1 + 1 + 1 + 1, o1) :: (LG + 1 + 1 + 1, o2) :: (LG + 1 + 1, o3) :: (LG + 1, o4) :: ([(a1, listOf ([] : List Value).toArray 0)] ++ news)) F3 ?_ rfl (fun _ hp => nomatch hp) ?_ ?_ ?_ ?_
    · exact allC (N3 _ (.head _)) (allC (N3 _ (.tail _ (.head _))) (allC (N3 _ (.tail _ (.tail _ (.tail _ (.tail _ (.head _)))))) (allC (N3 _ (.tail _ (.tail _ (.tail _ (.tail _ (.tail _ (.head _))))))) (allC (N3 _ (.tail _ (.tail _ (.tail _ (.tail _ (.tail _ (.tail _ (.head _)))))))) (allC (N3 _ (.tail _ (.tail _ (.tail _ (.tail _ (.tail _ (.tail _ (.tail _ (.head _))))))))) (allC (N3 _ (.tail _ (.tail _ (.head _)))) (fun p hp => N3 p (.tail _ (.tail _ (.tail _ (.tail _ (.tail _ (.tail _ (.tail _ (.tail _ (hp))))))))))))))))
    · intro q hq p hp
      rw [List.mem_singleton.mp hq]
      exact allC (P := fun p => p.1 ≠ I) (Nat.ne_of_lt (hltI _ (.head _))) (allC (Nat.ne_of_lt (hltI _ (.tail _ (.tail _ (.tail _ (.head _)))))) (allC (Nat.ne_of_lt (hltI _ (.tail _ (.tail _ (.tail _ (.tail _ (.head _))))))) (allC (Nat.ne_of_lt (hltI _ (.tail _ (.tail _ (.tail _ (.tail _ (.tail _ (.head _)))))))) (allC (Nat.ne_of_lt (hltI _ (.tail _ (.tail _ (.tail _ (.tail _ (.tail _ (.tail _ (.head _))))))))) (allC (Nat.ne_of_lt (hltI _ (.tail _ (.head _)))) (fun p hp => Nat.ne_of_lt (hltI p (.tail _ (.tail _ (.tail _ (.tail _ (.tail _ (.tail _ (.tail _ (hp))))))))))))))) p hp
    · refine ⟨D, [.ref a1], 0, [(a1, listOf ([] : List Value).toArray 0)], o1, o2, none, none, rfl, if_pos rfl, d1, d2, .cons (.head _) .nil .nil, by simp, u2.2.2.1, fun p hp => ?_⟩
      rw [List.mem_singleton.mp hp]
      exact u1.2.1
    · clear F3 N3
      rintro i v ext m₁ X own h4 tk4 hi hp66 hp67 F4 N4 hd4 off4 hlt4
      try (refine letQS ?_; intro Q68 s68)
      obtain ⟨rfl, t, rfl⟩ := hp66
      refine exE8 hp67 ?_; intro D ys kd TT o1' o2' v1 v2 hq77
      refine anE8 hq77 ?_; clear hq77; intro hr77 hmD e1 e2 hL hyl hD4 hT4
      clear hp67
      subst hr77
      simp only [List.map, over] at F4
      rw [hmD] at F4
      rw [Int.zero_add]
      simp only [List.cons_append, List.nil_append] at N4
      have hZ : ∀ p ∈ (TT ++ news) ++ own, @Ne Nat p.1 (LG + 1 + 1 + 1 + 1) ∧ @Ne Nat p.1 (LG + 1 + 1 + 1) := by
        intro p hp
        rcases List.mem_append.mp hp with hp | hp
        · rcases List.mem_append.mp hp with hp | hp
          · have z := hT4 p hp
            exact ⟨Nat.ne_of_gt z, Nat.ne_of_gt (Nat.lt_of_succ_lt z)⟩
          · have z := ltN (zl1 p hp)
            constructor <;> omega
        · exact ⟨(off4 p hp _ (.tail _ (.head _))).symm, (off4 p hp _ (.tail _ (.tail _ (.head _)))).symm⟩
      have hZ4 : ∀ p ∈ (TT ++ news) ++ own, p.1 ≠ LG + 1 + 1 + 1 + 1 := fun p hp => (hZ p hp).1
      have hZ3 : ∀ p ∈ (TT ++ news) ++ own, p.1 ≠ LG + 1 + 1 + 1 := fun p hp => (hZ p hp).2
      have hmT : ∀ p ∈ TT, p ∈ (TT ++ news) ++ own := fun p hp => List.mem_append_left _ (List.mem_append_left _ hp)
      have hmr : (lr, listOf svs.toArray nr) ∈ (TT ++ news) ++ own := List.mem_append_left _ (List.mem_append_right _ hlr)
      have hmO : ∀ p ∈ own, p ∈ (TT ++ news) ++ own := fun p hp => List.mem_append_right _ hp
      have hmN : ∀ p ∈ news, p ∈ (TT ++ news) ++ own := fun p hp => List.mem_append_left _ (List.mem_append_right _ hp)
      generalize hZZ : (TT ++ news) ++ own = Z at N4 hZ4 hZ3 hmT hmr hmO hmN
      clear hZ
      refine wpAny_assign_Name (storeX_C F4 N4 rfl (UpdF.tail (Nat.ne_of_gt (Nat.lt_of_succ_lt hD4)) (UpdF.tail (Nat.ne_of_gt (Nat.lt_succ_self _)) (UpdF.head ?_))) e2 (fun h5 o2'' F5 N5 e2' => ?_) rfl rfl)
      · exact allC (neN (by omega)) (allC (neN (by omega)) (fun p hp => hZ3 p hp))
      clear F4 N4
      skip
      rename IntsAre svs shape => hI9
      have hcase : (i + 1 < shape.length ∧ ∃ ti, svs[((i : Int) + 1).toNat]? = some (.int (shape.getD (i + 1) 0) ti)) ∨ shape.length ≤ i + 1 := by
        rcases Nat.lt_or_ge (i + 1) shape.length with q | q
        · obtain ⟨ti, hsv⟩ := hI9.get (i + 1) (shape.getD (i + 1) 0) (by rw [List.getD_eq_getElem?_getD, List.getElem?_eq_getElem q]; rfl)
          exact .inl ⟨q, ti, by have : ((i : Int) + 1).toNat = i + 1 := by omega
                                rw [this]; exact hsv⟩
        · exact .inr q
      refine wpAny_execs_cons ?_
      try dsimp only
      refine merge F5 (fun o => (D, listOf (List.toArray ys) kd) :: (LG + 1 + 1 + 1 + 1, o) :: (LG + 1 + 1 + 1, o2'') :: (LG + 1 + 1, o3) :: (LG + 1, o4) :: Z) (leastF shape i) ?_ fun h6 o1n tk6 tl F6 N6 d1n => ?_
      · rcases hcase with ⟨q, ti, hsv⟩ | q
        · k_steps
          rename_i h6 o1n F6 N6 d1n
          exact ⟨rfl, _, _, _, _, rfl, F6, N6, by rw [d1n, leastF, if_pos q]⟩
        · k_steps
          rename_i h6 o1n F6 N6 d1n
          exact ⟨rfl, _, _, _, _, rfl, F6, N6, by rw [d1n, leastF, if_neg (by omega)]⟩
      clear F5 N5 hcase
      try dsimp only
      k_steps
      unfold Hold
      have hleast : 0 ≤ leastF shape i ∧ leastF shape i ≤ 5 := least_small hs5
      have hg5 : 0 ≤ shape.getD i 0 ∧ shape.getD i 0 ≤ 5 := hs5 (shape.getD i 0) (by rw [List.getD_eq_getElem?_getD, List.getElem?_eq_getElem hi]; exact List.getElem_mem hi)
      obtain ⟨ti, hsv0⟩ := hI9.get i (shape.getD i 0) (by rw [List.getD_eq_getElem?_getD, List.getElem?_eq_getElem hi]; rfl)
      have hsv1 : svs[((i : Int)).toNat]? = some (.int (shape.getD i 0) ti) := by
        have : ((i : Int)).toNat = i := by omega
        rw [this]; exact hsv0
      refine Assign_ListComp_G F6 (by with_unfolding_all rfl) (by with_unfolding_all rfl) (by decide) rfl (by decide) ?_
      k_steps
      unfold Hold
      rename Fr gG LG _ _ => F7
      rename News gG LG _ _ => N7
      refine pyIter_list_K F7 N7 (.head _) fun I2 oI2 h7 hI2 F7' N7' hltI2 => ?_
      clear F7 N7
      refine ⟨_, F7', N7', fun D2 C2 oC h8 hC F8 N8 hltD2 hDC2 => ?_⟩
      clear F7' N7'
      obtain ⟨X0, hX0⟩ : ∃ X0, X0 = (D, listOf (List.toArray ys) kd) :: (LG + 1 + 1 + 1 + 1, o1n) :: (LG + 1 + 1 + 1, o2'') :: (LG + 1 + 1, o3) :: (LG + 1, o4) :: Z := ⟨_, rfl⟩
      rw [← hX0] at N8 hltD2 hltI2
      have mD : (D, listOf (List.toArray ys) kd) ∈ X0 := hX0 ▸ .head _
      have m4 : (LG + 1 + 1 + 1 + 1, o1n) ∈ X0 := hX0 ▸ .tail _ (.head _)
      have m3 : (LG + 1 + 1 + 1, o2'') ∈ X0 := hX0 ▸ .tail _ (.tail _ (.head _))
      have m1' : (LG + 1, o4) ∈ X0 := hX0 ▸ .tail _ (.tail _ (.tail _ (.tail _ (.head _))))
      have mZ : ∀ p ∈ Z, p ∈ X0 := fun p hp => hX0 ▸ .tail _ (.tail _ (.tail _ (.tail _ (.tail _ hp))))
      have hD2I : @LT.lt Nat _ I2 D2 := hltD2 _ (.head _)
      have hD2X : ∀ p ∈ X0, p.1 < D2 := fun p hp => hltD2 p (.tail _ hp)
      have hX4 : @LT.lt Nat _ (LG + 1 + 1 + 1 + 1) D2 := hD2X _ m4
      refine compIt_start (own := [(I2, oI2)]) (X := X0) rfl (LIt.list rfl (l := D) (vs := ys) (kl := kd)) (fun p hp => N8 p (.tail _ (.tail _ hp))) ⟨oI2, rfl, hI2⟩ ?_
      refine compIt_more rfl rfl (fun _ => rfl) (LIt.list rfl (l := D) (vs := ys) (kl := kd)) (fun j ws m₂ X => ∃ TN, X = TN ++ X0 ∧ LLAre (TN ++ TT) ws (((smallerN shape i).take j).flatMap fun one => (partsF shape i).map fun part => one ++ [part]) ∧ ws.length ≤ 6 * j ∧ (∀ p ∈ TN, ∀ q ∈ X0, p.1 ≠ q.1) ∧ (∀ p ∈ TN, @LT.lt Nat _ (LG + 1 + 1 + 1 + 1) p.1))
        (own₀ := [(I2, oI2)]) F8 N8 hC ⟨oI2, rfl, hI2⟩ ?_ ?_ ?_ ?_ ⟨[], rfl, .nil, by simp, (fun _ hp => nomatch hp), (fun _ hp => nomatch hp)⟩ ?_ ?_
      · intro p hp; rw [List.mem_singleton.mp hp]; exact mD
      · intro q hq p hp
        rw [List.mem_singleton.mp hq]
        exact Nat.ne_of_lt (hltI2 p hp)
      · intro p hp
        have z := hD2X p hp
        exact ⟨Nat.ne_of_lt (Nat.lt_trans z hDC2), Nat.ne_of_lt z⟩
      · intro q hq
        rw [List.mem_singleton.mp hq]
        exact ⟨Nat.ne_of_lt (Nat.lt_trans hD2I hDC2), Nat.ne_of_lt hD2I⟩
      · clear F8 N8 hC
        rintro j v ext ws m₂ X own2 oC' h9 tk9 E' hj hp69 hp70 hC F9 N9 hd9 hX9 hoC9 off9 hlt9
        try (refine letQS ?_; intro Q71 s71)
        obtain ⟨rfl, hv⟩ := hp69
        obtain ⟨TN, hq79⟩ := hp70
        refine anE5 hq79 ?_; clear hq79; intro hr79 hLL hwl htn htn4
        subst hr79
        obtain ⟨a, ivs, l, na, rfl, hl, hma, hIl⟩ := hL.at hv
        rw [List.nil_append] at N9
        have yX : ∀ p ∈ X0, p ∈ (TN ++ X0) ++ own2 := fun p hp => List.mem_append_left _ (List.mem_append_right _ hp)
        have y4 := yX _ m4
        have y3 := yX _ m3
        have y1 := yX _ m1'
        have yr := yX _ (mZ _ hmr)
        have ya := yX _ (mZ _ (hmT _ hma))
        have yTX : ∀ p ∈ TN ++ X0, p ∈ (TN ++ X0) ++ own2 := fun p hp => List.mem_append_left _ hp
        have yO : ∀ p ∈ own2, p ∈ (TN ++ X0) ++ own2 := fun p hp => List.mem_append_right _ hp
        have hYC : ∀ p ∈ (TN ++ X0) ++ own2, p.1 ≠ C2 ∧ p.1 ≠ D2 := fun p hp => (List.mem_append.mp hp).elim (hX9 p) (hoC9 p)
        generalize hY : (TN ++ X0) ++ own2 = Y at N9 yX y4 y3 y1 yr ya yTX yO hYC
        refine asgC' rfl rfl F9 N9 hC ?_ ?_
        · exact allC (Nat.ne_of_lt hDC2) (fun p hp => (hYC p hp).1)
        intro oC2 m2 h10 tk10 hC2 hmo _ F10 N10
        clear F9 N9 hC
        k_steps
        unfold Hold
        rename IsRange _ _ _ _ _ _ _ _ => hR
        rename Fr gG LG _ _ => F11
        rename News gG LG _ _ => N11
        have hn6 : (shape.getD i 0 + 1 - leastF shape i).toNat ≤ 6 := by omega
        have hsm2 : Builtin.Range.small (leastF shape i) (shape.getD i 0 + 1) 1 = true := small_one (by omega) (by omega) (by omega) (by omega)
        have hsz2 : Builtin.Range.rangeSize (leastF shape i) (shape.getD i 0 + 1) 1 = ((shape.getD i 0 + 1 - leastF shape i).toNat : Int) := by unfold Builtin.Range.rangeSize; rw [if_pos (by decide)]; split <;> omega
        refine pyIter_range_K F11 N11 hR hsm2 hsz2 fun I3 h11 F12 N12 hltI3 => ?_
        clear F11 N11 hR
        have hI3C : @LT.lt Nat _ C2 I3 := hltI3 _ (.head _)
        have hI3D : @LT.lt Nat _ D2 I3 := hltI3 _ (.tail _ (.head _))
        have hI3Y : ∀ p ∈ Y, p.1 < I3 := fun p hp => hltI3 p (.tail _ (.tail _ hp))
        refine compIt_start (own := [_]) (X := (C2, oC2) :: (D2, lst ws) :: Y) rfl (LIt.range rfl (a := leastF shape i) (n := (shape.getD i 0 + 1 - leastF shape i).toNat)) N12 rfl ?_
        refine compIt_last rfl rfl (LIt.range rfl (a := leastF shape i) (n := (shape.getD i 0 + 1 - leastF shape i).toNat)) (fun j2 ws' m' X' => ∃ new, X' = new ++ Y ∧ LLAre (new ++ (TN ++ TT)) ws' ((((smallerN shape i).take j).flatMap fun one => (partsF shape i).map fun part => one ++ [part]) ++ (List.range j2).map fun (j : Nat) => l ++ [leastF shape i + (j : Int)]) ∧
          m' (Str.ofString "one") = some (.ref a) ∧ ws'.length ≤ 6 * j + j2 ∧ j2 ≤ 6 ∧ (∀ p ∈ new, ∀ q ∈ Y, p.1 ≠ q.1) ∧ (∀ p ∈ new, @LT.lt Nat _ (LG + 1 + 1 + 1 + 1) p.1)) (own₀ := [(I3, rgIter (leastF shape i + (0 : Nat)) (((shape.getD i 0 + 1 - leastF shape i).toNat : Int) - (0 : Nat)))]) (X₀ := Y) F12 (fun p hp => N12 p ?_) hC2 rfl (fun _ hp => nomatch hp) ?_ hYC ?_ (Nat.ne_of_gt hDC2) ⟨[], rfl, ?_, hmo, hwl, by omega, (fun _ hp => nomatch hp), (fun _ hp => nomatch hp)⟩ ?_ ?_ ?_
        · revert p; exact allC (.tail _ (.head _)) (allC (.tail _ (.tail _ (.head _))) (allC (.head _) (fun p hp => .tail _ (.tail _ (.tail _ hp)))))
        · intro q hq p hp
          rw [List.mem_singleton.mp hq]
          exact Nat.ne_of_lt (hI3Y p hp)
        · intro q hq
          rw [List.mem_singleton.mp hq]
          exact ⟨Nat.ne_of_gt hI3C, Nat.ne_of_gt hI3D⟩
        · rw [List.range_zero, List.map_nil, List.append_nil]; exact hLL
        · rintro j2 ws' m' X' hp72
          try (refine letQS ?_; intro Q73 s73)
          obtain ⟨_, hq80⟩ := hp72
          refine anE6 hq80 ?_; clear hq80; intro _ _ _ h1 h2 _
          have hj8 : j < 6 ^ i := Nat.lt_of_lt_of_le hj hyl
          have hp5 : 6 ^ i ≤ 6 ^ 5 := Nat.pow_le_pow_right (by decide) (by omega)
          omega
        · clear F12 N12 hC2
          rintro j2 v ext ws' m' X' own3 oC3 h12 tk12 E'' hj2 hp74 hp75 hC3 F13 N13 hd13 hX13 hoC13 off13 hlt13
          try (refine letQS ?_; intro Q76 s76)
          obtain ⟨rfl, tj, rfl⟩ := hp74
          obtain ⟨new, hq82⟩ := hp75
          refine anE7 hq82 ?_; clear hq82; intro hr82 hP' hmo' hwl' hj6 hno hn4
          subst hr82
          rw [List.nil_append] at N13
          have vY : ∀ p ∈ Y, p ∈ (new ++ Y) ++ own3 := fun p hp => List.mem_append_left _ (List.mem_append_right _ hp)
          have va := vY _ ya
          have vN : ∀ p ∈ new ++ Y, p ∈ (new ++ Y) ++ own3 := fun p hp => List.mem_append_left _ hp
          have vO : ∀ p ∈ own3, p ∈ (new ++ Y) ++ own3 := fun p hp => List.mem_append_right _ hp
          have hVC : ∀ p ∈ (new ++ Y) ++ own3, p.1 ≠ C2 ∧ p.1 ≠ D2 := fun p hp => (List.mem_append.mp hp).elim (hX13 p) (hoC13 p)
          generalize hV : (new ++ Y) ++ own3 = V at N13 vY va vN vO hVC
          refine asgC' rfl rfl F13 N13 hC3 ?_ ?_
          · exact allC (Nat.ne_of_lt hDC2) (fun p hp => (hVC p hp).1)
          intro oC4 m4' h13 tk13 hC4 hmp hmr4 F14 N14
          clear F13 N13 hC3
          have hmo4 : m4' (Str.ofString "one") = some (.ref a) := by rw [hmr4 _ (by decide)]; exact hmo'
          refine tnil ?_
          k_steps
          rename Fr gG LG _ _ => F15
          rename News gG LG _ _ => N15
          have hll := smaller_small hs5 (List.mem_of_getElem? hl)
          have hil : ivs.length = i := hIl.length.trans hll.1
          have hi5 : i < 5 := by omega
          refine add_K (vs := ivs) (ws := [_]) F15 N15 (News.isList N15 (.tail _ (.tail _ (.tail _ va)))) (News.isList N15 (.head _)) (fun D9 h16 F16 N16 hltS => ?_) (by rw [sizeLine_eq, hil]; simp only [List.length_singleton]; omega)
          have hRV : ∀ p ∈ V, p.1 < D9 := fun p hp => hltS p (.tail _ (.tail _ (.tail _ hp)))
          refine TEnd.intro ((D9, listOf (ivs ++ [Value.int (leastF shape i + (j2 : Int)) tj]).toArray 0) :: (new ++ Y)) F16 N16 (.tail _ (.tail _ (.head _))) (.tail _ (.tail _ (.tail _ (.head _)))) ?_ ?_ hC4 (fun _ hp => nomatch hp) ?_ ?_ ⟨(D9, listOf (ivs ++ [Value.int (leastF shape i + (j2 : Int)) tj]).toArray 0) :: new, rfl, ?_, hmo4, ?_, ?_, ?_, ?_⟩
          · exact allC (.head _) (fun p hp => .tail _ (.tail _ (.tail _ (.tail _ (vN p hp)))))
          · intro p hp
            exact .tail _ (.tail _ (.tail _ (.tail _ (vO p hp))))
          · exact allC (⟨Nat.ne_of_gt (hltS _ (.tail _ (.head _))), Nat.ne_of_gt (hltS _ (.tail _ (.tail _ (.head _))))⟩) (fun p hp => hX13 p hp)
          · intro q hq p hp
            revert p; exact allC (Nat.ne_of_gt (hRV q (vO q hq))) (fun p hp => off13 q hq p hp)
          · have e1 : (((smallerN shape i).take j).flatMap fun one => (partsF shape i).map fun part => one ++ [part]) ++ (List.range (j2 + 1)).map (fun (j : Nat) => l ++ [leastF shape i + (j : Int)]) = ((((smallerN shape i).take j).flatMap fun one => (partsF shape i).map fun part => one ++ [part]) ++ (List.range j2).map fun (j : Nat) => l ++ [leastF shape i + (j : Int)]) ++ [l ++ [leastF shape i + (j2 : Int)]] := by
              rw [List.range_succ, List.map_append, List.append_assoc]; rfl
            rw [e1]
            exact LLAre.snoc (.head _) (IntsAre.snoc hIl _ _) (hP'.mono fun p hp => .tail _ hp)
          · simp only [List.length_append, Option.toList, List.length_cons, List.length_nil]; omega
          · omega
          · intro p hp q hq
            revert p; exact allC (Nat.ne_of_gt (hRV q (vY q hq))) (fun p hp => hno p hp q hq)
          · exact allC (Nat.lt_trans hX4 (hltS _ (.tail _ (.tail _ (.head _))))) (fun p hp => hn4 p hp)
        · rintro ws' m' X' oC3 h12 tk12 hp77 hC3 F13 N13 hX13
          try (refine letQS ?_; intro Q78 s78)
          obtain ⟨new, hq84⟩ := hp77
          refine anE7 hq84 ?_; clear hq84; intro hr84 hP' hmo' hwl' hj6 hno hn4
          subst hr84
          refine ⟨⟨_, rfl⟩, ws', TEnd.intro (new ++ (TN ++ X0)) F13 N13 (.head _) (.tail _ (.head _)) ?_ ?_ hC3 ?_ ?_ ?_ ⟨new ++ TN, (List.append_assoc _ _ _).symm, ?_, ?_, ?_, ?_⟩⟩
          · intro p hp
            refine .tail _ (.tail _ ?_)
            rcases List.mem_append.mp hp with hp | hp
            · exact List.mem_append_left _ hp
            · exact List.mem_append_right _ (yTX p hp)
          · intro p hp
            exact .tail _ (.tail _ (List.mem_append_right _ (yO p hp)))
          · intro p hp
            exact List.mem_append_right _ (hd9 p hp)
          · intro p hp
            rcases List.mem_append.mp hp with hp | hp
            · exact hX13 p (List.mem_append_left _ hp)
            · exact hX9 p hp
          · intro q hq p hp
            rcases List.mem_append.mp hp with hp | hp
            · exact hno p hp q (yO q hq)
            · exact off9 q hq p hp
          · have e2 : ((smallerN shape i).take (j + 1)).flatMap (fun one => (partsF shape i).map fun part => one ++ [part]) = (((smallerN shape i).take j).flatMap fun one => (partsF shape i).map fun part => one ++ [part]) ++ (List.range (shape.getD i 0 + 1 - leastF shape i).toNat).map fun (j : Nat) => l ++ [leastF shape i + (j : Int)] := by
              rw [List.take_add_one, hl, List.flatMap_append]
              simp [partsF]
            rw [e2, List.append_assoc new TN TT]
            simpa using hP'
          · simp only [Option.toList, List.append_nil]; omega
          · intro p hp q hq
            rcases List.mem_append.mp hp with hp | hp
            · exact hno p hp q (yX q hq)
            · exact htn p hp q hq
          · intro p hp
            rcases List.mem_append.mp hp with hp | hp
            · exact hn4 p hp
            · exact htn4 p hp
      · rintro ws m₂ X oC' h9 tk9 hp79 hC9 F9 N9 hX9
        try (refine letQS ?_; intro Q80 s80)
        obtain ⟨TN, hq86⟩ := hp79
        refine anE5 hq86 ?_; clear hq86; intro hr86 hLL hwl htn htn4
        subst hr86
        refine CompDoneA.local rfl rfl rfl F9 hC9 N9 (fun p hp => (hX9 p hp).1) (Nat.ne_of_gt hDC2) fun h10 tk10 F10 N10 => ?_
        clear F9 N9 hC9
        k_steps
        unfold Hold
        show FEnd _ _ _ _ _ _ _ _ _
        refine FEnd.intro ((D2, listOf (List.toArray ws) ws.length) :: (LG + 1 + 1 + 1 + 1, o1n) :: (LG + 1 + 1 + 1, o2'') :: (LG + 1 + 1, o3) :: (LG + 1, o4) :: ((TN ++ TT) ++ news)) F10 N10 ?_ ?_ (fun _ hp => nomatch hp) ?_ ⟨D2, ws, ws.length, TN ++ TT, o1n, o2'', _, _, rfl, if_pos rfl, d1n, e2', ?_, ?_, hX4, ?_⟩ ?_
        · intro p hp
          rcases List.mem_cons.mp hp with rfl | hp
          · exact .head _
          refine .tail _ ?_
          rcases List.mem_cons.mp hp with rfl | hp
          · exact List.mem_append_right _ m4
          rcases List.mem_cons.mp hp with rfl | hp
          · exact List.mem_append_right _ m3
          rcases List.mem_cons.mp hp with rfl | hp
          · exact List.mem_append_right _ (hX0 ▸ .tail _ (.tail _ (.tail _ (.head _))))
          rcases List.mem_cons.mp hp with rfl | hp
          · exact List.mem_append_right _ m1'
          rcases List.mem_append.mp hp with hp | hp
          · rcases List.mem_append.mp hp with hp | hp
            · exact List.mem_append_left _ hp
            · exact List.mem_append_right _ (mZ _ (hmT p hp))
          · exact List.mem_append_right _ (mZ _ (hmN p hp))
        · intro p hp
          exact .tail _ (List.mem_append_right _ (mZ _ (hmO p hp)))
        · intro q' hq' p hp
          rcases List.mem_cons.mp hp with rfl | hp
          · exact Nat.ne_of_gt (hD2X _ (mZ _ (hmO q' hq')))
          rcases List.mem_cons.mp hp with rfl | hp
          · exact off4 q' hq' (LG + 1 + 1 + 1 + 1, o1') (.tail _ (.head _))
          rcases List.mem_cons.mp hp with rfl | hp
          · exact off4 q' hq' (LG + 1 + 1 + 1, o2') (.tail _ (.tail _ (.head _)))
          rcases List.mem_cons.mp hp with rfl | hp
          · exact off4 q' hq' _ (.tail _ (.tail _ (.tail _ (.head _))))
          rcases List.mem_cons.mp hp with rfl | hp
          · exact off4 q' hq' _ (.tail _ (.tail _ (.tail _ (.tail _ (.head _)))))
          rcases List.mem_append.mp hp with hp | hp
          · rcases List.mem_append.mp hp with hp | hp
            · exact htn p hp q' (mZ _ (hmO q' hq'))
            · exact off4 q' hq' p (.tail _ (.tail _ (.tail _ (.tail _ (.tail _ (List.mem_append_left _ hp))))))
          · exact off4 q' hq' p (.tail _ (.tail _ (.tail _ (.tail _ (.tail _ (List.mem_append_right _ hp))))))
        · rw [List.take_of_length_le (Nat.le_of_eq hL.length.symm)] at hLL
          exact hLL
        · rw [Nat.pow_succ]; omega
        · intro p hp
          rcases List.mem_append.mp hp with hp | hp
          · exact htn4 p hp
          · exact hT4 p hp
        · walk_at "off"
    · clear F3 N3
      rintro m₁ X h4 tk4 hp93 F4 N4
      try (refine letQS ?_; intro Q94 s94)
      refine exE8 hp93 ?_; intro D ys kd TT o1' o2' v1 v2 hq88
      refine anE8 hq88 ?_; clear hq88; intro hr88 hmD e1 e2 hL hyl hD4 hT4
      clear hp93
      subst hr88
      simp only [List.map, over] at F4
      rw [hmD] at F4
      obtain ⟨X0, hX0⟩ : ∃ X0, X0 = (D, listOf (List.toArray ys) kd) :: (LG + 1 + 1 + 1 + 1, o1') :: (LG + 1 + 1 + 1, o2') :: (LG + 1 + 1, o3) :: (LG + 1, o4) :: (TT ++ news) := ⟨_, rfl⟩
      rw [← hX0] at N4
      have mD : (D, listOf (List.toArray ys) kd) ∈ X0 := hX0 ▸ .head _
      have m2' : (LG + 1 + 1, o3) ∈ X0 := hX0 ▸ .tail _ (.tail _ (.tail _ (.head _)))
      have m1' : (LG + 1, o4) ∈ X0 := hX0 ▸ .tail _ (.tail _ (.tail _ (.tail _ (.head _))))
      have mT : ∀ p ∈ TT, p ∈ X0 := fun p hp => hX0 ▸ .tail _ (.tail _ (.tail _ (.tail _ (.tail _ (List.mem_append_left _ hp)))))
      have mN : ∀ p ∈ news, p ∈ X0 := fun p hp => hX0 ▸ .tail _ (.tail _ (.tail _ (.tail _ (.tail _ (List.mem_append_right _ hp)))))
      have mr := mN _ hlr
      have mz := mN _ hzr
      k_steps
      unfold Hold
      rename Fr gG LG _ _ => F5
      refine ListComp_G F5 (by with_unfolding_all rfl) (by decide) rfl (by decide) ?_
      k_steps
      unfold Hold
      rename Fr gG LG _ _ => F7
      rename News gG LG _ _ => N7
      refine pyIter_list_K F7 N7 mD fun I2 oI2 h7 hI2 F7' N7' hltI2 => ?_
      clear F7 N7
      refine ⟨_, F7', N7', fun D2 C2 oC h8 hC F8 N8 hltD2 hDC2 => ?_⟩
      clear F7' N7'
      have hD2I : @LT.lt Nat _ I2 D2 := hltD2 _ (.head _)
      have hD2X : ∀ p ∈ X0, p.1 < D2 := fun p hp => hltD2 p (.tail _ hp)
      refine compIt_start (own := [(I2, oI2)]) (X := X0) rfl (LIt.list rfl (l := D) (vs := ys) (kl := kd)) (fun p hp => N8 p (.tail _ (.tail _ hp))) ⟨oI2, rfl, hI2⟩ ?_
      refine compIt_last rfl rfl (LIt.list rfl (l := D) (vs := ys) (kl := kd)) (fun j ws m₂ X => IntsAre ws ((((smallerN shape shape.length).take j).filter fun one => shape.sum - one.sum == sizes.getLastD 0).map fun one => waysF n one sizes.dropLast) ∧ X = X0 ∧ ws.length ≤ j ∧ j ≤ ys.length)
        (own₀ := [(I2, oI2)]) F8 N8 hC ⟨oI2, rfl, hI2⟩ ?_ ?_ ?_ ?_ (Nat.ne_of_gt hDC2) ⟨.nil, rfl, by simp, by omega⟩ ?_ ?_ ?_
      · intro p hp; rw [List.mem_singleton.mp hp]; exact mD
      · intro q hq p hp
        rw [List.mem_singleton.mp hq]
        exact Nat.ne_of_lt (hltI2 p hp)
      · intro p hp
        have z := hD2X p hp
        exact ⟨Nat.ne_of_lt (Nat.lt_trans z hDC2), Nat.ne_of_lt z⟩
      · intro q hq
        rw [List.mem_singleton.mp hq]
        exact ⟨Nat.ne_of_lt (Nat.lt_trans hD2I hDC2), Nat.ne_of_lt hD2I⟩
      · rintro j ws m₂ X hp95
        try (refine letQS ?_; intro Q96 s96)
        refine anE4 hp95 ?_; intro _ _ h1 h2
        clear hp95
        have hp5 : 6 ^ shape.length ≤ 6 ^ 5 := Nat.pow_le_pow_right (by decide) hsl
        omega
      · clear F8 N8 hC
        rintro j v ext ws m₂ X own2 oC' h9 tk9 E' hj hp97 hp98 hC F9 N9 hd9 hX9 hoC9 off9 hlt9
        try (refine letQS ?_; intro Q99 s99)
        obtain ⟨rfl, hv⟩ := hp97
        refine anE4 hp98 ?_; intro hW hr91 hwl hjl
        clear hp98
        subst hr91
        obtain ⟨a, ivs, l, na, rfl, hl, hma, hIl⟩ := hL.at hv
        have hll := smaller_small hs5 (List.mem_of_getElem? hl)
        rw [List.nil_append] at N9
        have yX : ∀ p ∈ X, p ∈ X ++ own2 := fun p hp => List.mem_append_left _ hp
        have y2 := yX _ m2'
        have y1 := yX _ m1'
        have yr := yX _ mr
        have yz := yX _ mz
        have ya := yX _ (mT _ hma)
        have yO : ∀ p ∈ own2, p ∈ X ++ own2 := fun p hp => List.mem_append_right _ hp
        have hYC : ∀ p ∈ X ++ own2, p.1 ≠ C2 ∧ p.1 ≠ D2 := fun p hp => (List.mem_append.mp hp).elim (hX9 p) (hoC9 p)
        generalize hY : X ++ own2 = Y at N9 yX y2 y1 yr yz ya yO hYC
        refine asgC' rfl rfl F9 N9 hC ?_ ?_
        · exact allC (Nat.ne_of_lt hDC2) (fun p hp => (hYC p hp).1)
        intro oC2 m2 h10 tk10 hC2 hmo _ F10 N10
        clear F9 N9 hC
        obtain ⟨tz, hlast⟩ := ints_last hIz hne
        refine tests_one ?_
        k_steps
        · unfold Hold
          rename shape.sum - l.sum = _ => hq
          rename Fr gG LG _ _ => F11
          rename News gG LG _ _ => N11
          rw [slice_init] at N11
          have hdl : sizes.dropLast.length = n := by rw [List.length_dropLast, hn]; rfl
          refine wpAny_call (ih p loose mean mg mb _ _ _ _ _ _ _ _ _ _ _ _ _ a _ ivs zvs.dropLast na 0 l sizes.dropLast (by k_asm) F11 (by k_asm) N11 (by k_asm) rfl rfl (by dsimp only [Around.deeper]; omega) (by dsimp only [Around.deeper]; omega) (.tail _ (.tail _ (.tail _ ya))) (.head _) hIl (ints_init hIz) hdl (by omega) (by rw [hll.1]; exact hsl) hll.2 ?_)
          intro t9 h12 tk12 F12 N12
          clear F11 N11
          show TEnd _ _ _ _ _ _ _ _ _ _ _ _
          have ew : ((((smallerN shape shape.length).take (j + 1)).filter fun one => shape.sum - one.sum == sizes.getLastD 0).map fun one => waysF n one sizes.dropLast) = ((((smallerN shape shape.length).take j).filter fun one => shape.sum - one.sum == sizes.getLastD 0).map fun one => waysF n one sizes.dropLast) ++ [waysF n l sizes.dropLast] := by
            rw [List.take_add_one, hl, List.filter_append, List.map_append]
            simp [hq]
          refine TEnd.intro X F12 N12 (.tail _ (.head _)) (.tail _ (.tail _ (.head _))) (fun p hp => .tail _ (.tail _ (.tail _ (yX p hp)))) (fun p hp => .tail _ (.tail _ (.tail _ (yO p hp)))) hC2 hd9 hX9 off9 ⟨?_, rfl, ?_, hj⟩
          · rw [ew]; exact IntsAre.snoc hW _ _
          · simp only [List.length_append, Option.toList, List.length_cons, List.length_nil]; omega
        · rename shape.sum - l.sum ≠ _ => hq
          rename Fr gG LG _ _ => F11
          rename News gG LG _ _ => N11
          have ew : ((((smallerN shape shape.length).take (j + 1)).filter fun one => shape.sum - one.sum == sizes.getLastD 0).map fun one => waysF n one sizes.dropLast) = ((((smallerN shape shape.length).take j).filter fun one => shape.sum - one.sum == sizes.getLastD 0).map fun one => waysF n one sizes.dropLast) := by
            have hb : (shape.sum - l.sum == sizes.getLastD 0) = false := beq_eq_false_iff_ne.mpr hq
            rw [List.take_add_one, hl, List.filter_append, List.map_append]
            simp only [Option.toList, List.filter_cons, hb, Bool.false_eq_true, if_false, List.filter_nil, List.map_nil, List.append_nil]
          refine TEnd.intro X F11 N11 (.head _) (.tail _ (.head _)) (fun p hp => .tail _ (.tail _ (yX p hp))) (fun p hp => .tail _ (.tail _ (yO p hp))) hC2 hd9 hX9 off9 ⟨?_, rfl, ?_, hj⟩
          · rw [ew]; simpa using hW
          · simp only [Option.toList, List.append_nil]; omega
      · clear F8 N8 hC
        rintro ws m₂ X oC' h9 tk9 hp100 hC F9 N9 hX9
        try (refine letQS ?_; intro Q101 s101)
        refine anE4 hp100 ?_; intro hW hr93 hwl hjl
        clear hp100
        subst hr93
        refine ⟨h9, tk9, oC', _, ws, _, rfl, F9, hC, N9, fun p hp => (hX9 p hp).1, fun h10 F10 N10 => ?_⟩
        clear F9 N9 hC
        rw [List.take_of_length_le (Nat.le_of_eq hL.length.symm)] at hW
        k_steps
        rename News h₀ L _ _ => N11
        refine ret _ _ _ (by k_asm) (cb_drop N11 fun p hp => ?_)
        have hp := mN p hp
        k_mem
end Mine
end
-- G17
section
theorem Mine.resetG17 : True := by (w_top off; trivial)
open PySem PySem.W PyProof.Rows PyProof.Rows.LCg
set_option Elab.async false
set_option maxRecDepth 100000
set_option maxHeartbeats 8000000
namespace Mine
/-- The end of the law: it answers True, keeps all that was there, and the table of codes has only grown. -/
noncomputable def LawEnd (s₁ : Shared) (tabs : List (Addr × Addr)) (r : Result) (s' : Shared) : Prop :=
  r = .ok (.ret (.bool true)) ∧ (∀ b o, (ghostOf s₁.heap tabs).get? b = some o → s'.heap.get? b = some o) ∧ s'.os = s₁.os ∧ AllBare s'.gens ∧ GrownAll tabs s'.heap
theorem kn_postG {M : Model} {A : Around} {cd : Code} {s s₁ : Shared} {cw : ClaimW} {cl : Str → Option Addr} {mean : ExcName → Option Value} {args : List WData} {tabs : List (Addr × Addr)}
    (hT : TabsAt tabs s₁.heap) (hr : ∀ a x, cw.raises a x = false) (hpo : cw.post args (.bool true) args = true)
    (h : codeAny M A cd (LawEnd s₁ tabs) s) : codeAny M A cd (GoodWG cw cl mean args s₁) s :=
  codeAny_mono h fun r s' ⟨hc, hk, hos, hg, hgr⟩ => by
    have grown : ∀ b o, b ∈ tabs.map (·.2) → s₁.heap.get? b = some o → isCodeTable s₁.heap b ∧ o = tabObj #[] ∧ ∃ ps, s'.heap.get? b = some (tabObj ps) := fun b o hb e => by
      obtain ⟨q, hq, rfl⟩ := List.mem_map.mp hb
      have e2 := (hT q hq).2
      rw [e] at e2
      exact ⟨((hT q hq).1.tab (hT q hq).2).isCodeTable, Option.some.inj e2, hgr.get q hq⟩
    refine ⟨.inl ⟨_, _, [], hc, fun x => hr _ x, ReadsW.bool true, hpo, fun _ => ⟨List.nodup_nil, fun _ hm => (nomatch hm)⟩⟩, ⟨fun b o e => ?_, fun b o e => ?_⟩, hos, hg⟩
    · by_cases hb : b ∈ tabs.map (·.2)
      · obtain ⟨ht, rfl, ps, hP⟩ := grown b o hb e
        exact .inr (.inl ⟨ht, rfl, #[], ps, rfl, by rw [Array.empty_append]; exact hP⟩)
      · exact .inl (hk b o (ghost_ne e hb))
    · by_cases hb : b ∈ tabs.map (·.2)
      · obtain ⟨_, _, ps, hP⟩ := grown b o hb e
        exact ⟨_, hP⟩
      · exact ⟨o, hk b o (ghost_ne e hb)⟩
theorem LawEnd.of {h₀ h : Heap} {L : Addr} {m : Str → Option Value} {news : List (Addr × Obj)} {s₁ : Shared} {tabs : List (Addr × Addr)} {g : Array GenState} {d : Drawn} {t : Nat} 
    (F : Fr (ghostOf s₁.heap tabs) L h m) (hg : AllBare g) (hgr : GrownAll tabs h) : LawEnd s₁ tabs (.ok (.ret (.bool true))) ⟨h, g, d, t, s₁.os⟩ :=
  ⟨rfl, F.keep, rfl, hg, hgr⟩
end Mine
end
-- G18
section
theorem Mine.resetG18 : True := by (w_top off; trivial)
open PySem PySem.W PyProof.Rows PyProof.Rows.LCg
set_option Elab.async false
set_option maxRecDepth 100000
set_option maxHeartbeats 8000000
namespace Mine
section
variable {prog : Program} {w : World} {A : Around} {E : Value → Shared → Prop} {s : Shared} {env : Env} {h₀ : Heap} {L : Addr} {m : Str → Option Value}
noncomputable def cell0 : Obj := { cls := .type "cell", data := .cell none }
theorem env_lay {M : Model} {scope : Scope} {globals : Addr} {cl : List (Str × Addr)} {qual : Str} {code : Value} {outer : Env} {b : Addr} {Q : Env → Shared → Prop}
    (h : Q { scope, locals := s.heap.objs.size, globals, cells := cellsFrom (s.heap.objs.size + 1) scope.names cl, qual, func := none, code := outer.code, frame := outer.frame, builtins := outer.builtins }
      { s with heap := pushCells (s.heap.push { cls := .type "dict", data := .dict #[] }) scope.names }) :
    wpAny M A (newFunctionEnv scope globals cl [] qual none code (some outer) b) Q E s := by
  simp only [newFunctionEnv, Option.isSome_some, if_true]
  refine wpAny_bind (wpAny_alloc ?_)
  refine wpAny_bind (wpAny_layCells _ (fun name kind cells => by cases hkc : kind == NameKind.cell <;> simp [hkc]) _ _ _ _ ?_)
  rw [show ({ s with heap := s.heap.push { cls := .type "dict", data := .dict #[] } } : Shared).heap.objs.size = s.heap.objs.size + 1 from Heap.size_push ..]
  rw [List.forIn_nil]
  exact wpAny_bind (wpAny_pure (wpAny_pure h))
/-- an assigned comprehension one of whose own names is a cell -/
theorem Assign_ListComp_C {elt target iter : Expr} {ifs : List Expr} {rest : List Comprehension} {scope : Scope} {cl : List (Str × Addr)} {x : Str} {pos spos py : Pos} {y : Str} {Q : Flow → Shared → Prop} (_F₀ : Fr h₀ L s.heap m)
    (hsw : swapsWith (.ListComp elt (⟨target, iter, ifs, 0⟩ :: rest) scope pos) (some (.Name y py)) spos.line env = pure true)
    (hclos : closureFor scope env = pure cl) (hcells : ∀ n, cellsFrom n scope.names cl = (x, n) :: cl) (hpush : ∀ h, pushCells h scope.names = h.push cell0) (hkind : scope.kind = .function)
    (hnames : ∀ y ∈ scope.names, y.2 = .local → scope.names.lookup y.1 = some .local)
    (h : wpAny (model prog w) A (eval iter env) (fun xv s₁ => wpAny (model prog w) A (pyIter xv) (fun itv s₂ => ∃ news, Fr h₀ L s₂.heap m ∧ News h₀ L s₂.heap news ∧ ∀ D C B oC h₁, NsObj oC (fun _ => none) → Fr h₀ L h₁ m → News h₀ L h₁ ((C, oC) :: (D, lst []) :: (B, cell0) :: news) → (∀ p ∈ news, p.1 < D) → @LT.lt Nat _ D C → @LT.lt Nat _ C B →
      codeAny (model prog w) A (.compStart (.ListComp elt (⟨target, iter, ifs, 0⟩ :: rest) scope pos) 0 itv (.ref D) (compEnvC scope ((x, B) :: cl) C env)) (CompDoneA prog w A E h₀ L m env y Q C D s₂) { s₂ with heap := h₁ }) E s₁) E s)
    (hs : ∀ x, foldedSetIterable iter env x = pure x := by intro _; rfl) :
    wpAny (model prog w) A (exec (.Assign [.Name y py] (.ListComp elt (⟨target, iter, ifs, 0⟩ :: rest) scope pos) spos) env) Q E s := by
  k_with_none
  k_with "om" => with_reducible first | exact Mine.om36 | fail
  rw [exec_Assign_Name_used _ _ _ _ hsw]
  refine wpAny_bind (wpAny_standAt (wpAny_bind ?_))
  show wpAny _ A (do let _ ← comprehension (.ListComp elt (⟨target, iter, ifs, 0⟩ :: rest) scope pos) scope env _ (newList []) false (eval iter env) (some (assign (.Name y py) env))) _ _ s
  refine wpAny_bind (wpAny_mono (wpAny_comprehension_free (use := some (assign (.Name y py) env)) (Q := fun _ s' => Q .next s') rfl hs hclos hkind hnames
    (wpAny_mono h (fun xv s₁ h₁ => wpAny_mono h₁ (fun itv s₂ h₂ => ?_) fun _ _ e => e) fun _ _ e => e)) (fun _ s' hq => wpAny_pure (wpAny_pure hq)) fun _ _ e => e)
  obtain ⟨news, hq94⟩ := h₂
  refine anE3 hq94 ?_; clear hq94; intro F N K
  refine wpAny_newObj_type (env_lay ?_)
  dsimp only
  rw [hcells, hpush]
  generalize hH2 : s₂.heap.push { cls := .type "list", dict := none, data := .seq ([] : List Value).toArray } = H2
  have hC : H2.objs.size = s₂.heap.objs.size + 1 := by rw [← hH2, Heap.size_push]
  have F2 : Fr h₀ L H2 m := hH2 ▸ F.push _
  have N2 : News h₀ L H2 ((s₂.heap.objs.size, lst []) :: news) := hH2 ▸ N.push F _
  generalize hH3 : H2.push { cls := .type "dict", data := .dict #[] } = H3
  have hB : H3.objs.size = H2.objs.size + 1 := by rw [← hH3, Heap.size_push]
  have F3 : Fr h₀ L H3 m := hH3 ▸ F2.push _
  have N3 := N2.push F2 { cls := .type "dict", data := .dict #[] }
  rw [hH3] at N3
  have hns3 : H3.Ns H2.objs.size (fun _ => none) := hH3 ▸ Heap.Ns.new H2 (.type "dict")
  obtain ⟨oC, heC, hoC⟩ := ns_obj hns3
  have F4 : Fr h₀ L (H3.push cell0) m := F3.push _
  have N4 := N3.push F3 cell0
  rw [← hB]
  have heC' := (N3 _ (.head _)).1
  rw [heC] at heC'
  cases heC'
  have N5 : News h₀ L (H3.push cell0) ((H2.objs.size, _) :: (s₂.heap.objs.size, lst []) :: (H3.objs.size, cell0) :: news) := fun p hp => N4 p (by
    rcases List.mem_cons.mp hp with rfl | hp
    · exact .tail _ (.head _)
    · rcases List.mem_cons.mp hp with rfl | hp
      · exact .tail _ (.tail _ (.head _))
      · rcases List.mem_cons.mp hp with rfl | hp
        · exact .head _
        · exact .tail _ (.tail _ (.tail _ hp)))
  have hk := K s₂.heap.objs.size H2.objs.size H3.objs.size _ (H3.push cell0) hoC F4 N5 (fun p hp => Heap.lt_size (N p hp).1) (by rw [hC]; exact Nat.lt_succ_self _) (by rw [hB]; exact Nat.lt_succ_self _)
  refine codeAny_mono hk fun r s' hr => ?_
  cases r with
  | error e => exact hr.elim
  | ok f =>
    refine exE6 hr ?_; intro h' tk oC' m' ys news' hq96
    refine anE6 hq96 ?_; clear hq96; intro hr96 F' hm' N' hne hq
    clear hr
    subst hr96
    show wpAny _ A (assign (.Name y py) env (.ref s₂.heap.objs.size)) _ _ _
    refine wpAny_assign_Name (wpAny_mono hq (fun _ s'' h'' => ?_) fun _ _ e => e)
    refine exE4 h'' ?_; intro h2 tk2 m2 nx hq98
    refine anE5 hq98 ?_; clear hq98; intro hr98 F3 N3 hne3 hq3
    clear h''
    subst hr98
    have zC := (N3 _ (.head _))
    exact ⟨m', hm'.ns zC.1, fun h'' hs'' => hq3 h'' (F3.change hs'' zC.2.1 zC.2.2) fun p hp => ⟨hs''.extBut _ _ (hne3 p hp) (N3 p (.tail _ hp)).1, (N3 p (.tail _ hp)).2⟩⟩
end
section
variable {prog : Program} {w : World} {A : Around} {E : Value → Shared → Prop} {s : Shared} {h₀ : Heap} {L a : Addr} {m : Str → Option Value} {cn : Str} {cs : Scope} {ccd : Value} {cl : List (Str × Addr)}
/-- a comprehension's own cell is let -/
theorem asgB {scope : Scope} {env : Env} {C B : Addr} {oB : Obj} {x : Str} {px : Pos} {v : Value} {v₀ : Option Value} {news : List (Addr × Obj)} {g : Obj → List (Addr × Obj)} {Q : Unit → Shared → Prop} (hkind : scope.kind = .function) (hx : (compEnvC scope cl C env).kindOf x = some .cell)
    (hc : cl.lookup x = some B) (F : Fr h₀ L s.heap m) (N : News h₀ L s.heap news) (U : UpdF B oB news g) (hd : oB.data = .cell v₀)
    (h : ∀ oB' h', oB'.data = .cell (some v) → Fr h₀ L h' m → News h₀ L h' (g oB') → Q () { s with heap := h' }) :
    wpAny (model prog w) A (assign (.Name x px) (compEnvC scope cl C env) v) Q E s := by
  obtain ⟨own, rest, rfl, hg, h1, h2⟩ := U.split
  have hmem := N (B, oB) (List.mem_append_right _ (.head _))
  refine wpAny_assign_Name (wpAny_storeName_cell (by simp [compEnvC, relabel, hkind]) hx hc ⟨oB, hmem.1, hd⟩ fun h' hv hs => ?_)
  obtain ⟨o', ho', hd'⟩ := hv
  refine h o' h' hd' ⟨F.ns.sameBut hs (Ne.symm hmem.2.1), fun b ob e => (hs.2 b (fun q => ?_)).trans (F.keep b ob e), F.above⟩ (hg o' ▸ N.setAt h1 h2 hs ho')
  rw [q, hmem.2.2] at e; cases e
end
end Mine
end
-- G19
section
theorem Mine.resetG19 : True := by (w_top off; trivial)
open PySem PySem.W PyProof.Rows PyProof.Rows.LCg
set_option Elab.async false
set_option maxRecDepth 100000
set_option maxHeartbeats 8000000
namespace Mine
section
variable {prog : Program} {w : World} {A : Around} {s : Shared} {env : Env} {R : Result → Shared → Prop} {h₀ : Heap} {L : Addr} {m : Str → Option Value}
variable {elt : Expr} {scope : Scope} {cl : List (Str × Addr)} {pos : Pos} {it : Value} {iter : Expr} {ifs : List Expr} {C D : Addr} {n : Nat} {dep : List (Addr × Obj)} {Own : Nat → List (Addr × Obj) → Prop} {P : Nat → Value → List (Addr × Obj) → Prop}
/-- a comprehension of one clause, its target a local name -/
theorem comp1 {x : Str} {px : Pos} (hkind : scope.kind = .function) (hx : scope.names.lookup x = some .local) (I : LIt prog w A h₀ L (.Name x px) it n dep Own P) (hP : ∀ i v ext, P i v ext → ext = []) (J : Nat → List Value → List (Addr × Obj) → Prop)
    {X₀ own₀ : List (Addr × Obj)} {oC₀ : Obj} (F₀ : Fr h₀ L s.heap m) (N₀ : News h₀ L s.heap ((C, oC₀) :: (D, lst []) :: (own₀ ++ X₀))) (hC₀ : NsObj oC₀ (fun _ => none)) (hO₀ : Own 0 own₀) (hd₀ : ∀ p ∈ dep, p ∈ X₀)
    (off₀ : ∀ q ∈ own₀, ∀ p ∈ X₀, p.1 ≠ q.1) (hlt : ∀ p ∈ own₀ ++ X₀, p.1 ≠ C ∧ p.1 ≠ D) (hDC : @LT.lt Nat _ D C) (hJ₀ : J 0 [] X₀) (hsz : ∀ i ys X, i ≤ n → J i ys X → ys.length ≤ 100000)
    (turn : ∀ i v ys X own Y oC m₂ h tk (E' : Value → Shared → Prop), i < n → P i v [] → J i ys X → NsObj oC m₂ → m₂ x = some v → Fr h₀ L h m → News h₀ L h ((C, oC) :: (D, lst ys) :: Y) → (∀ p ∈ X, p ∈ Y) → (∀ p ∈ own, p ∈ Y) → (∀ p ∈ Y, p.1 ≠ C ∧ p.1 ≠ D) → (∀ q ∈ own, ∀ p ∈ X, p.1 ≠ q.1) → (∀ p ∈ dep, p ∈ X) →
        wpAny (model prog w) A (testsOf ifs (compEnvC scope cl C env)) (fun ok s₄ => if ok = true then
          wpAny (model prog w) A (eval elt (compEnvC scope cl C env)) (fun x s₅ => TEnd h₀ L m s dep own C D ys (fun ys _ X => J (i + 1) ys X) (some x) s₅) E' s₄
        else TEnd h₀ L m s dep own C D ys (fun ys _ X => J (i + 1) ys X) none s₄) E' { s with heap := h, toks := tk })
    (done : ∀ ys m₂ X oC h tk, J n ys X → NsObj oC m₂ → Fr h₀ L h m → News h₀ L h ((C, oC) :: (D, lst ys) :: X) → (∀ p ∈ X, p.1 ≠ C ∧ p.1 ≠ D) → R (.ok .next) { s with heap := h, toks := tk }) :
    codeAny (model prog w) A (.compStart (.ListComp elt [⟨.Name x px, iter, ifs, 0⟩] scope pos) 0 it (.ref D) (compEnvC scope cl C env)) R s := by
  have hCD : @Ne Nat C D := Nat.ne_of_gt hDC
  refine compIt_start (own := own₀) (X := X₀) rfl I (fun p hp => N₀ p (.tail _ (.tail _ hp))) hO₀ ?_
  refine compIt_last rfl rfl I (fun i ys _ X => J i ys X ∧ i ≤ n) F₀ N₀ hC₀ hO₀ hd₀ off₀ (fun p hp => hlt p (List.mem_append_right _ hp)) (fun p hp => hlt p (List.mem_append_left _ hp)) hCD ⟨hJ₀, Nat.zero_le _⟩ (fun i ys m₂ X h => hsz i ys X h.2 h.1) ?_ ?_
  · rintro i v ext ys m₂ X own oC h tk E' hi hv ⟨hJ, _⟩ hC F N hd hX hoC off hlt9
    obtain rfl := hP _ _ _ hv
    rw [List.nil_append] at N
    have hY : ∀ p ∈ X ++ own, p.1 ≠ C ∧ p.1 ≠ D := fun p hp => (List.mem_append.mp hp).elim (hX p) (hoC p)
    refine asgC' hkind hx F N hC (fun p hp => ?_) fun oC2 m2 h10 tk10 hC2 hmo _ F10 N10 => ?_
    · rcases List.mem_cons.mp hp with rfl | hp
      · exact hCD.symm
      · exact (hY p hp).1
    have fix : ∀ xo s₅, TEnd h₀ L m s dep own C D ys (fun ys _ X => J (i + 1) ys X) xo s₅ → TEnd h₀ L m s dep own C D ys (fun ys _ X => J (i + 1) ys X ∧ i + 1 ≤ n) xo s₅ := by
      rintro xo s₅ ⟨a1, a2, a3, a4, a5, a6, b1, b2, b3, b4, b5, b6, b7, b8, b9, c1, c2, c3⟩
      exact ⟨a1, a2, a3, a4, a5, a6, b1, b2, b3, b4, b5, b6, b7, b8, b9, c1, c2, c3, hi⟩
    refine wpAny_mono (turn i v ys X own (X ++ own) oC2 m2 h10 tk10 E' hi hv hJ hC2 hmo F10 N10 (fun p hp => List.mem_append_left _ hp) (fun p hp => List.mem_append_right _ hp) hY off hd) (fun ok s₄ h₄ => ?_) fun _ _ e => e
    cases ok with
    | false => simp only [Bool.false_eq_true, if_false] at h₄ ⊢; exact fix _ _ h₄
    | true => simp only [if_true] at h₄ ⊢; exact wpAny_mono h₄ (fun x s₅ h₅ => fix _ _ h₅) fun _ _ e => e
  · rintro ys m₂ X oC h tk ⟨hJ, _⟩ hC F N hX
    exact done ys m₂ X oC h tk hJ hC F N hX
/-- a turn's end: what is new lies apart from all that was there -/
theorem TEnd.grow {h' : Heap} {own : List (Addr × Obj)} {ys : List Value} {J : List Value → (Str → Option Value) → List (Addr × Obj) → Prop} {xo : Option Value} {tk : Nat} {oC : Obj} {m₂ : Str → Option Value} {X Y : List (Addr × Obj)} (add all : List (Addr × Obj))
    (F : Fr h₀ L h' m) (N : News h₀ L h' all) (hall : ∀ p ∈ (C, oC) :: (D, lst ys) :: Y, p ∈ all) (hadd : ∀ p ∈ add, p ∈ all) (hoff : ∀ a ∈ add, ∀ p ∈ (C, oC) :: (D, lst ys) :: Y, p.1 ≠ a.1) (hm : NsObj oC m₂)
    (hX : ∀ p ∈ X, p ∈ Y) (hO : ∀ p ∈ own, p ∈ Y) (hCD : ∀ p ∈ Y, p.1 ≠ C ∧ p.1 ≠ D) (off : ∀ q ∈ own, ∀ p ∈ X, p.1 ≠ q.1) (hd : ∀ p ∈ dep, p ∈ X) (hJ : J (ys ++ xo.toList) m₂ (add ++ X)) :
    TEnd h₀ L m s dep own C D ys J xo { s with heap := h', toks := tk } := by
  refine TEnd.intro (add ++ X) F N (hall _ (.head _)) (hall _ (.tail _ (.head _))) (fun p hp => ?_) (fun p hp => hall _ (.tail _ (.tail _ (hO p hp)))) hm (fun p hp => List.mem_append_right _ (hd p hp)) (fun p hp => ?_) (fun q hq p hp => ?_) hJ
  · rcases List.mem_append.mp hp with hp | hp
    · exact hadd p hp
    · exact hall _ (.tail _ (.tail _ (hX p hp)))
  · rcases List.mem_append.mp hp with hp | hp
    · exact ⟨(hoff p hp _ (.head _)).symm, (hoff p hp _ (.tail _ (.head _))).symm⟩
    · exact hCD p (hX p hp)
  · rcases List.mem_append.mp hp with hp | hp
    · exact (hoff p hp q (.tail _ (.tail _ (hO q hq)))).symm
    · exact off q hq p hp
end
end Mine
end
-- Fin1
section
theorem Mine.resetFin1 : True := by (w_top off; trivial)
open PySem PySem.W PyProof.Rows PyProof.Rows.LCg
set_option Elab.async false
set_option maxRecDepth 100000
set_option maxHeartbeats 8000000
namespace Mine
theorem told_cut_all : (List.range 5).all (fun a => (List.range 5).all fun b => decide (toldF [1 + (a : Int), 1 + (b : Int), 0] 5 = cutF (1 + (a : Int)) (1 + (b : Int)) 5)) = true := by decide +kernel
theorem told_cut {f g : Int} (h1 : 1 ≤ f) (h2 : f ≤ 5) (h3 : 1 ≤ g) (h4 : g ≤ 5) : toldF [f, g, 0] 5 = cutF f g 5 := by
  k_with_none
  k_with "om" => with_reducible first | exact Mine.om3 (by assumption) | exact Mine.om41 (by assumption) | fail
  have h := List.all_eq_true.mp (List.all_eq_true.mp told_cut_all (f - 1).toNat (List.mem_range.mpr (by omega))) (g - 1).toNat (List.mem_range.mpr (by omega))
  have e1 : 1 + ((f - 1).toNat : Int) = f := by omega
  have e2 : 1 + ((g - 1).toNat : Int) = g := by omega
  rw [e1, e2] at h
  exact of_decide_eq_true h
theorem cut_ok_all : (List.range 5).all (fun a => (List.range 5).all fun b => let c := cutF (1 + (a : Int)) (1 + (b : Int)) 5; decide (c.length ≤ 5) && decide (1 ≤ c.length) && c.all (fun x => decide (0 ≤ x) && decide (x ≤ 5)) && decide (c ≠ [])) = true := by decide +kernel
theorem cut_ok {f g : Int} (h1 : 1 ≤ f) (h2 : f ≤ 5) (h3 : 1 ≤ g) (h4 : g ≤ 5) : (cutF f g 5).length ≤ 5 ∧ 1 ≤ (cutF f g 5).length ∧ (∀ x ∈ cutF f g 5, 0 ≤ x ∧ x ≤ 5) ∧ cutF f g 5 ≠ [] := by
  have h := List.all_eq_true.mp (List.all_eq_true.mp cut_ok_all (f - 1).toNat (List.mem_range.mpr (by omega))) (g - 1).toNat (List.mem_range.mpr (by omega))
  have e1 : 1 + ((f - 1).toNat : Int) = f := by omega
  have e2 : 1 + ((g - 1).toNat : Int) = g := by omega
  simp only [e1, e2, Bool.and_eq_true, decide_eq_true_eq, List.all_eq_true] at h
  exact ⟨h.1.1.1, h.1.1.2, h.1.2, h.2⟩
theorem cells_all : (List.range 5).all (fun a => (List.range 5).all fun b => decide (b ≤ a → (cellsN (cutF (1 + (a : Int)) (1 + (b : Int)) 5) (cutF (1 + (a : Int)) (1 + (b : Int)) 5).length).length = 5)) = true := by decide +kernel
theorem cells_ok {f g : Int} (h1 : 1 ≤ f) (h2 : f ≤ 5) (h3 : 1 ≤ g) (h4 : g ≤ f) : (cellsN (cutF f g 5) (cutF f g 5).length).length = 5 := by
  k_with_none
  k_with "om" => with_reducible first | exact Mine.om3 (by assumption) | exact Mine.om67 (by assumption) (by assumption) | exact Mine.om352 (by assumption) | fail
  have h := List.all_eq_true.mp (List.all_eq_true.mp cells_all (f - 1).toNat (List.mem_range.mpr (by omega))) (g - 1).toNat (List.mem_range.mpr (by omega))
  have e1 : 1 + ((f - 1).toNat : Int) = f := by omega
  have e2 : 1 + ((g - 1).toNat : Int) = g := by omega
  rw [e1, e2] at h
  exact of_decide_eq_true h (by omega)
end Mine
end
-- Fin2
section
theorem Mine.resetFin2 : True := by (w_top off; trivial)
open PySem PySem.W PyProof.Rows PyProof.Rows.LCg
set_option Elab.async false
set_option maxRecDepth 100000
set_option maxHeartbeats 8000000
namespace Mine
noncomputable def stepF (n : Int) : Str := if n = 0 then Str.ofString "\t" else Str.ofString " \t"
noncomputable def wordOk (x : Str) : Bool := x.cps.size ≤ 60 && x.cps.all (· < 128) && decide ((Txt.replace x (Str.ofString "\t") (Str.ofString "\\\t")).length ≤ 130) && decide ((Txt.join (Str.ofString "") (x.cps.toList.map escF)).length ≤ 130)
end Mine
end
-- P1
section
theorem Mine.resetP1 : True := by (w_top off; trivial)
open PySem PySem.W PyProof.Rows
set_option Elab.async false
set_option maxRecDepth 100000
set_option maxHeartbeats 8000000
namespace Mine
/-! The plain law of the reading: what is written is read back. -/
noncomputable def sg (c : Nat) : Str := ⟨#[c]⟩
theorem cps_nl : (Str.ofString "\n").cps = #[10] := by decide +kernel
theorem eq_ch {c d : Nat} {s : String} (h : (Str.ofString s).cps = #[d]) : (sg c == Str.ofString s) = decide (c = d) := by
  by_cases e : c = d
  · subst e
    rw [decide_eq_true rfl]
    have : Str.ofString s = sg c := by
      cases hs : Str.ofString s with | mk a => rw [hs] at h; dsimp only at h; subst h; rfl
    rw [this]
    exact beq_self_eq_true _
  · rw [decide_eq_false e]
    refine beq_eq_false_iff_ne.mpr fun q => e ?_
    have : (sg c).cps = #[d] := by rw [q]; exact h
    simpa [sg] using this
theorem ch_nl (c : Nat) : (sg c == Str.ofString "\n") = decide (c = 10) := eq_ch cps_nl
theorem ch_q (c : Nat) : (sg c == Str.ofString "\"") = decide (c = 34) := eq_ch (by decide +kernel)
theorem ch_b (c : Nat) : (sg c == Str.ofString "\\") = decide (c = 92) := eq_ch (by decide +kernel)
theorem ch_ws (c : Nat) : wsIn (sg c) = decide (c ∈ [10, 9, 13, 32]) := by
  unfold wsIn sg
  rw [StrLaws.found_one]
  rw [show (Str.ofString "\n\t\r ").cps.toList = [10, 9, 13, 32] by decide +kernel]
noncomputable def escQ (c : Nat) : List Nat := if c = 9 then [92, 9] else [c]
noncomputable def escB (c : Nat) : List Nat := if 97 ≤ c ∧ c ≤ 101 then [c] else [92, c]
/-- a word's signs: a tab, a blank, a letter from a to e -/
noncomputable def okC (c : Nat) : Bool := c == 9 || c == 32 || (decide (97 ≤ c) && decide (c ≤ 101))
theorem okC_cases {c : Nat} (h : okC c = true) : c = 9 ∨ c = 32 ∨ (97 ≤ c ∧ c ≤ 101) := by
  simp only [okC, Bool.or_eq_true, beq_iff_eq, Bool.and_eq_true, decide_eq_true_eq] at h
  rcases h with (h | h) | h
  · exact .inl h
  · exact .inr (.inl h)
  · exact .inr (.inr h)
theorem lnNext_sg (ln : Int) (c : Nat) : lnNext ln (sg c) = if c = 10 then ln + 1 else ln := by
  unfold lnNext
  rw [ch_nl]
  by_cases e : c = 10 <;> simp [e]
theorem ln_ne {ln : Int} {c : Nat} (h : c ≠ 10) : lnNext ln (sg c) = ln := by rw [lnNext_sg, if_neg h]
theorem app_assoc (a : Str) (x : List Nat) (c : Nat) : a ++ sg c ++ ⟨x.toArray⟩ = a ++ ⟨(c :: x).toArray⟩ := by
  show Str.mk ((a.cps ++ #[c]) ++ x.toArray) = Str.mk (a.cps ++ (c :: x).toArray)
  congr 1
  apply Array.ext'
  simp
theorem app_nil (a : Str) : a ++ (⟨([] : List Nat).toArray⟩ : Str) = a := by
  show Str.mk (a.cps ++ #[]) = a
  rw [Array.append_empty]
theorem nil_app (x : List Nat) : Str.ofString "" ++ (⟨x.toArray⟩ : Str) = ⟨x.toArray⟩ := by
  show Str.mk ((Str.ofString "").cps ++ x.toArray) = _
  rw [show (Str.ofString "").cps = #[] by decide +kernel, Array.empty_append]
theorem quot_word : ∀ (wd : List Nat), (∀ c ∈ wd, okC c = true) → ∀ (n : Nat) (acc : Str) (rest : List Nat) (ln : Int), (wd.flatMap escQ ++ 34 :: rest).length < n →
    quotF n acc ((wd.flatMap escQ ++ 34 :: rest).map sg) ln = (acc ++ ⟨wd.toArray⟩, rest.map sg, ln)
  | [], _, n, acc, rest, ln, hn => by
    k_with_none
    k_with "om" => with_reducible first | exact Mine.om6 (by assumption) | exact Mine.om265 (by assumption) | exact Mine.om266 (by assumption) | exact Mine.om38 (by assumption) | exact Mine.om93 (by assumption) | exact Mine.om27 (by assumption) | fail
    obtain ⟨n, rfl⟩ : ∃ k, n = k + 1 := ⟨n - 1, by omega⟩
    show quotF (n + 1) acc (sg 34 :: rest.map sg) ln = _
    rw [quotF, if_pos (by rw [ch_q]; rfl), lnNext_sg, app_nil]
    rfl
  | c :: wd, h, n, acc, rest, ln, hn => by
    have hc := okC_cases (h c (.head _))
    have hw : ∀ c ∈ wd, okC c = true := fun d hd => h d (.tail _ hd)
    rw [List.flatMap_cons] at hn ⊢
    by_cases e : c = 9
    · subst e
      rw [show escQ 9 = [92, 9] from rfl] at hn ⊢
      obtain ⟨n, rfl⟩ : ∃ k, n = k + 1 := ⟨n - 1, by omega⟩
      simp only [List.cons_append, List.nil_append, List.length_cons] at hn
      show quotF (n + 1) acc (sg 92 :: sg 9 :: (wd.flatMap escQ ++ 34 :: rest).map sg) ln = _
      rw [quotF, if_neg (by rw [ch_q]; decide), if_pos (by rw [ch_b]; rfl)]
      simp only [List.headD_cons, List.tail_cons]
      rw [quot_word wd hw n _ rest _ (by omega), app_assoc, lnNext_sg, lnNext_sg]
      rfl
    · rw [show escQ c = [c] from if_neg e] at hn ⊢
      obtain ⟨n, rfl⟩ : ∃ k, n = k + 1 := ⟨n - 1, by omega⟩
      simp only [List.cons_append, List.nil_append, List.length_cons] at hn
      show quotF (n + 1) acc (sg c :: (wd.flatMap escQ ++ 34 :: rest).map sg) ln = _
      rw [quotF, if_neg (by rw [ch_q, decide_eq_true_eq]; omega), if_neg (by rw [ch_b, decide_eq_true_eq]; omega)]
      rw [quot_word wd hw n _ rest _ (by omega), app_assoc, ln_ne (by omega)]
/-- what stands behind a bare word: the text's end, or a line feed -/
noncomputable def tailB : List Nat → List Nat | [] => [] | _ :: r => r
theorem bare_word (m : Bool) (rest : List Nat) (hm : m = false → rest = []) : ∀ (wd : List Nat), (∀ c ∈ wd, okC c = true) → ∀ (n : Nat) (acc : Str) (ln : Int), (wd.flatMap escB ++ (if m then 10 :: rest else [])).length < n →
    bareF n acc ((wd.flatMap escB ++ (if m then 10 :: rest else [])).map sg) ln = (acc ++ ⟨wd.toArray⟩, rest.map sg, if m then ln + 1 else ln)
  | [], _, n, acc, ln, hn => by
    k_with_none
    k_with "om" => with_reducible first | exact Mine.om6 (by assumption) | exact Mine.om38 (by assumption) | exact Mine.om93 (by assumption) | exact Mine.om27 (by assumption) | exact Mine.om234 (by assumption) | fail
    obtain ⟨n, rfl⟩ : ∃ k, n = k + 1 := ⟨n - 1, by omega⟩
    cases m with
    | false =>
      rw [hm rfl]
      show bareF (n + 1) acc [] ln = _
      rw [bareF, app_nil]
      rfl
    | true =>
      show bareF (n + 1) acc (sg 10 :: rest.map sg) ln = _
      rw [bareF, if_pos (by rw [ch_ws]; rfl), lnNext_sg, app_nil]
      rfl
  | c :: wd, h, n, acc, ln, hn => by
    have hc := okC_cases (h c (.head _))
    have hw : ∀ c ∈ wd, okC c = true := fun d hd => h d (.tail _ hd)
    rw [List.flatMap_cons] at hn ⊢
    obtain ⟨n, rfl⟩ : ∃ k, n = k + 1 := ⟨n - 1, by omega⟩
    by_cases e : 97 ≤ c ∧ c ≤ 101
    · rw [show escB c = [c] from if_pos e] at hn ⊢
      simp only [List.cons_append, List.nil_append, List.length_cons] at hn
      show bareF (n + 1) acc (sg c :: (wd.flatMap escB ++ (if m then 10 :: rest else [])).map sg) ln = _
      rw [bareF, if_neg (by rw [ch_ws, decide_eq_true_eq]; simp only [List.mem_cons, List.not_mem_nil, or_false]; omega), if_neg (by rw [ch_b, decide_eq_true_eq]; omega)]
      rw [bare_word m rest hm wd hw n _ _ (by omega), app_assoc, ln_ne (by omega)]
    · rw [show escB c = [92, c] from if_neg e] at hn ⊢
      simp only [List.cons_append, List.nil_append, List.length_cons] at hn
      show bareF (n + 1) acc (sg 92 :: sg c :: (wd.flatMap escB ++ (if m then 10 :: rest else [])).map sg) ln = _
      rw [bareF, if_neg (by rw [ch_ws]; decide), if_pos (by rw [ch_b]; rfl)]
      simp only [List.headD_cons, List.tail_cons]
      rw [bare_word m rest hm wd hw n _ _ (by omega), app_assoc, ln_ne (by omega), ln_ne (by decide)]
/-- the written words: their signs, and which are bare; the last line feeds are off -/
noncomputable def encS : List (List Nat × Bool) → List Nat
  | [] => []
  | [(x, b)] => if b then x.flatMap escB else 34 :: (x.flatMap escQ ++ [34])
  | (x, b) :: y :: r => (if b then x.flatMap escB ++ [10, 10] else 34 :: (x.flatMap escQ ++ [34])) ++ encS (y :: r)
noncomputable def preF (b : Bool) (r : List (List Nat × Bool)) : List Nat := if b && !r.isEmpty then [10] else []
theorem tok_word {x : List Nat} {b : Bool} {r : List (List Nat × Bool)} {pre : List Nat} {ln : Int} (hx : x ≠ []) (hok : ∀ c ∈ x, okC c = true) (hp : pre = [] ∨ pre = [10]) {n : Nat} (hn : (pre ++ encS ((x, b) :: r)).length < n) :
    tokF n ((pre ++ encS ((x, b) :: r)).map sg) ln = (⟨x.toArray⟩, (preF b r ++ encS r).map sg, ln + pre.length + (preF b r).length) := by
  k_with_none
  k_with "om" => with_reducible first | exact Mine.om6 (by assumption) | exact Mine.om27 (by assumption) | exact Mine.om38 (by assumption) | exact Mine.om93 (by assumption) | exact Mine.om429 (by assumption) | exact Mine.om234 (by assumption) | fail
  have main : ∀ n, (encS ((x, b) :: r)).length < n → ∀ ln, tokF n ((encS ((x, b) :: r)).map sg) ln = (⟨x.toArray⟩, (preF b r ++ encS r).map sg, ln + (preF b r).length) := by
    intro n hn ln
    obtain ⟨n, rfl⟩ : ∃ k, n = k + 1 := ⟨n - 1, by omega⟩
    cases b with
    | false =>
      have e : encS ((x, false) :: r) = 34 :: (x.flatMap escQ ++ 34 :: encS r) := by
        cases r with
        | nil => rfl
        | cons y r => simp [encS]
      rw [e] at hn ⊢
      show tokF (n + 1) (sg 34 :: (x.flatMap escQ ++ 34 :: encS r).map sg) ln = _
      rw [tokF, if_neg (by rw [ch_ws]; decide), if_pos (by rw [ch_q]; rfl)]
      rw [quot_word x hok n _ _ _ (by simp only [List.length_cons] at hn; omega), nil_app, lnNext_sg, if_neg (by decide)]
      simp [preF]
    | true =>
      have e : encS ((x, true) :: r) = x.flatMap escB ++ (if !r.isEmpty then 10 :: (10 :: encS r) else []) := by
        cases r with
        | nil => simp [encS]
        | cons y r => simp [encS]
      have e2 : (preF true r ++ encS r) = (if !r.isEmpty then 10 :: encS r else []) ∧ (preF true r).length = if !r.isEmpty then 1 else 0 := by
        cases r with
        | nil => exact ⟨rfl, rfl⟩
        | cons y r => exact ⟨rfl, rfl⟩
      have key : ∀ (rest : List Nat), ((!r.isEmpty) = false → rest = []) → (if !r.isEmpty then 10 :: (10 :: encS r) else []) = (if !r.isEmpty then 10 :: rest else []) → rest = (if !r.isEmpty then 10 :: encS r else []) →
          tokF (n + 1) ((x.flatMap escB ++ (if !r.isEmpty then 10 :: rest else [])).map sg) ln = (⟨x.toArray⟩, rest.map sg, if !r.isEmpty then ln + 1 else ln) := by
        intro rest hm h1 h2
        rw [e, h1] at hn
        match x, hx, hok with
        | c :: wd, _, hok =>
          have hc := okC_cases (hok c (.head _))
          have hw : ∀ c ∈ wd, okC c = true := fun d hd => hok d (.tail _ hd)
          rw [List.flatMap_cons] at hn ⊢
          by_cases e : 97 ≤ c ∧ c ≤ 101
          · rw [show escB c = [c] from if_pos e] at hn ⊢
            simp only [List.cons_append, List.nil_append, List.length_cons] at hn
            show tokF (n + 1) (sg c :: (wd.flatMap escB ++ (if !r.isEmpty then 10 :: rest else [])).map sg) ln = _
            rw [tokF, if_neg (by rw [ch_ws, decide_eq_true_eq]; simp only [List.mem_cons, List.not_mem_nil, or_false]; omega), if_neg (by rw [ch_q, decide_eq_true_eq]; omega), if_neg (by rw [ch_b, decide_eq_true_eq]; omega)]
            rw [bare_word (!r.isEmpty) rest hm wd hw n _ _ (by omega), app_assoc, nil_app, ln_ne (by omega)]
          · rw [show escB c = [92, c] from if_neg e] at hn ⊢
            simp only [List.cons_append, List.nil_append, List.length_cons] at hn
            show tokF (n + 1) (sg 92 :: sg c :: (wd.flatMap escB ++ (if !r.isEmpty then 10 :: rest else [])).map sg) ln = _
            rw [tokF, if_neg (by rw [ch_ws]; decide), if_neg (by rw [ch_q]; decide), if_pos (by rw [ch_b]; rfl)]
            simp only [List.headD_cons, List.tail_cons]
            rw [bare_word (!r.isEmpty) rest hm wd hw n _ _ (by omega), app_assoc, nil_app, ln_ne (by omega), ln_ne (by decide)]
      rw [e2.1, e2.2]
      have := key (if !r.isEmpty then 10 :: encS r else []) (fun q => by rw [q]; rfl) (by cases r <;> rfl) rfl
      rw [e, show (if !r.isEmpty then 10 :: (10 :: encS r) else []) = (if !r.isEmpty then 10 :: (if !r.isEmpty then 10 :: encS r else []) else []) by cases r <;> rfl, this]
      cases r <;> simp
  rcases hp with rfl | rfl
  · rw [List.nil_append] at hn ⊢
    rw [main n hn ln]
    simp
  · obtain ⟨n, rfl⟩ : ∃ k, n = k + 1 := ⟨n - 1, by omega⟩
    show tokF (n + 1) (sg 10 :: (encS ((x, b) :: r)).map sg) ln = _
    rw [tokF, if_pos (by rw [ch_ws]; rfl), lnNext_sg, if_pos rfl, main n (by simp only [List.cons_append, List.nil_append, List.length_cons] at hn; omega)]
    simp
theorem quot_suffix : ∀ (n : Nat) (acc : Str) (ls : List Str) (ln : Int), (quotF n acc ls ln).2.1 <:+ ls
  | 0, _, ls, _ => List.suffix_refl ls
  | _ + 1, _, [], _ => List.suffix_refl []
  | n + 1, acc, c :: r, ln => by
    rw [quotF]
    split
    · exact List.suffix_cons c r
    · split
      · exact ((quot_suffix n _ r.tail _).trans (List.tail_suffix r)).trans (List.suffix_cons c r)
      · exact (quot_suffix n _ r _).trans (List.suffix_cons c r)
theorem bare_suffix : ∀ (n : Nat) (acc : Str) (ls : List Str) (ln : Int), (bareF n acc ls ln).2.1 <:+ ls
  | 0, _, ls, _ => List.suffix_refl ls
  | _ + 1, _, [], _ => List.suffix_refl []
  | n + 1, acc, c :: r, ln => by
    rw [bareF]
    split
    · exact List.suffix_cons c r
    · split
      · exact ((bare_suffix n _ r.tail _).trans (List.tail_suffix r)).trans (List.suffix_cons c r)
      · exact (bare_suffix n _ r _).trans (List.suffix_cons c r)
theorem tok_suffix : ∀ (n : Nat) (ls : List Str) (ln : Int), (tokF n ls ln).2.1 <:+ ls
  | 0, ls, _ => List.suffix_refl ls
  | _ + 1, [], _ => List.suffix_refl []
  | n + 1, c :: r, ln => by
    rw [tokF]
    split
    · exact (tok_suffix n r _).trans (List.suffix_cons c r)
    · split
      · exact (quot_suffix n _ r _).trans (List.suffix_cons c r)
      · split
        · exact ((bare_suffix n _ r.tail _).trans (List.tail_suffix r)).trans (List.suffix_cons c r)
        · exact (bare_suffix n _ r _).trans (List.suffix_cons c r)
/-- the reading, token by token -/
noncomputable def headT (σ : List Str × Int) : Str := (tokF (σ.1.length + 1) σ.1 σ.2).1
noncomputable def nextT (σ : List Str × Int) : List Str × Int := (tokF (σ.1.length + 1) σ.1 σ.2).2
noncomputable def rdN (σ : List Str × Int) : Nat → List Str × Int
  | 0 => σ
  | n + 1 => nextT (rdN σ n)
theorem rdN_cons (σ : List Str × Int) : ∀ n, rdN σ (n + 1) = rdN (nextT σ) n
  | 0 => rfl
  | n + 1 => by
    show nextT (rdN σ (n + 1)) = nextT (rdN (nextT σ) n)
    rw [rdN_cons σ n]
noncomputable def toksN (σ : List Str × Int) (n : Nat) : List Str := (List.range n).map fun i => headT (rdN σ i)
theorem toksN_succ (σ : List Str × Int) (n : Nat) : toksN σ (n + 1) = toksN σ n ++ [headT (rdN σ n)] := by
  simp [toksN, List.range_succ]
theorem toksN_cons (σ : List Str × Int) (n : Nat) : toksN σ (n + 1) = headT σ :: toksN (nextT σ) n := by
  simp only [toksN, List.range_succ_eq_map, List.map_cons, List.map_map]
  refine congrArg (List.cons (headT σ)) (List.map_congr_left fun i _ => ?_)
  show headT (rdN σ (i + 1)) = _
  rw [rdN_cons]
theorem rdN_ok (σ : List Str × Int) (h : ∀ x ∈ σ.1, x.length = 1) : ∀ n, (rdN σ n).1.length ≤ σ.1.length ∧ ∀ x ∈ (rdN σ n).1, x.length = 1
  | 0 => ⟨Nat.le_refl _, h⟩
  | n + 1 => by
    obtain ⟨h1, h2⟩ := rdN_ok σ h n
    have hs := tok_suffix ((rdN σ n).1.length + 1) (rdN σ n).1 (rdN σ n).2
    exact ⟨Nat.le_trans hs.length_le h1, fun x hx => h2 x (hs.subset hx)⟩
/-- how many line feeds stand in the text -/
theorem count_word {x : List Nat} (hok : ∀ c ∈ x, okC c = true) : (x.flatMap escB).count 10 = 0 ∧ (x.flatMap escQ).count 10 = 0 := by
  constructor
  · refine List.count_eq_zero.mpr fun h => ?_
    obtain ⟨c, hc, h⟩ := List.mem_flatMap.mp h
    have := okC_cases (hok c hc)
    unfold escB at h
    split at h <;> simp at h <;> omega
  · refine List.count_eq_zero.mpr fun h => ?_
    obtain ⟨c, hc, h⟩ := List.mem_flatMap.mp h
    have := okC_cases (hok c hc)
    unfold escQ at h
    split at h <;> simp at h <;> omega
theorem count_enc {x : List Nat} {b : Bool} {r : List (List Nat × Bool)} (hok : ∀ c ∈ x, okC c = true) : (encS ((x, b) :: r)).count 10 = 2 * (preF b r).length + (encS r).count 10 := by
  k_with_none
  k_with "om" => with_reducible first | exact Mine.om411 | fail
  obtain ⟨h1, h2⟩ := count_word hok
  cases r with
  | nil => cases b <;> simp [encS, preF, h1, h2]
  | cons y r => cases b <;> simp [encS, preF, h1, h2] <;> omega
/-- all words are read as they were written, then the empty one, a line more for each line feed -/
theorem read_all : ∀ (l : List (List Nat × Bool)), (∀ p ∈ l, p.1 ≠ [] ∧ ∀ c ∈ p.1, okC c = true) → ∀ (pre : List Nat) (ln : Int), (pre = [] ∨ (pre = [10] ∧ l ≠ [])) →
    toksN ((pre ++ encS l).map sg, ln) (l.length + 1) = (l.map fun p => ⟨p.1.toArray⟩) ++ [Str.ofString ""] ∧ rdN ((pre ++ encS l).map sg, ln) (l.length + 1) = ([], ln + pre.length + ((encS l).count 10 : Nat))
  | [], _, pre, ln, hp => by
    k_with_none
    k_with "om" => with_reducible first | exact Mine.om298 | fail
    rcases hp with rfl | ⟨_, h⟩
    · refine ⟨rfl, ?_⟩
      show (([], ln) : List Str × Int) = _
      simp [encS]
    · exact absurd rfl h
  | (x, b) :: r, h, pre, ln, hp => by
    have hx := h _ (.head _)
    have hr := fun p hp => h p (List.mem_cons_of_mem _ hp)
    have key := tok_word (ln := ln) (b := b) (r := r) hx.1 hx.2 (hp.elim .inl fun q => .inr q.1) (Nat.lt_succ_self ((pre ++ encS ((x, b) :: r)).length))
    have e1 : headT ((pre ++ encS ((x, b) :: r)).map sg, ln) = ⟨x.toArray⟩ := by unfold headT; dsimp only; rw [List.length_map, key]
    have e2 : nextT ((pre ++ encS ((x, b) :: r)).map sg, ln) = ((preF b r ++ encS r).map sg, ln + pre.length + (preF b r).length) := by unfold nextT; dsimp only; rw [List.length_map, key]
    have hp2 : preF b r = [] ∨ (preF b r = [10] ∧ r ≠ []) := by
      cases r with
      | nil => exact .inl (by cases b <;> rfl)
      | cons y r => cases b with
        | false => exact .inl rfl
        | true => exact .inr ⟨rfl, by simp⟩
    obtain ⟨ih1, ih2⟩ := read_all r hr (preF b r) (ln + pre.length + (preF b r).length) hp2
    constructor
    · show toksN _ (r.length + 1 + 1) = _
      rw [toksN_cons, e1, e2, ih1]
      rfl
    · show rdN _ (r.length + 1 + 1) = _
      rw [rdN_cons, e2, ih2, count_enc hx.2]
      refine congrArg (Prod.mk _) ?_
      omega
end Mine
end
-- P2
section
theorem Mine.resetP2 : True := by (w_top off; trivial)
open PySem PySem.W PyProof.Rows Builtin.Str
set_option Elab.async false
set_option maxRecDepth 100000
set_option maxHeartbeats 8000000
namespace Mine
/-- one word as it is written; b: bare -/
noncomputable def writeF (word : Str) (b : Int) : Str := if b = 0 then Str.ofString "\"" ++ Txt.replace word (Str.ofString "\t") (Str.ofString "\\\t") ++ Str.ofString "\"" else Txt.join (Str.ofString "") (word.cps.toList.map escF) ++ Str.ofString "\n\n"
noncomputable def writtenF (ws : List Str) (n : Int) (k : Nat) : List Str := (List.range k).map fun i => writeF (ws.getD i (Str.ofString "")) (n.fdiv (2 ^ (i + 3)) % 2)
theorem writtenF_succ {ws : List Str} {n : Int} {k : Nat} {x : Str} (h : ws[k]? = some x) : writtenF ws n (k + 1) = writtenF ws n k ++ [writeF x (n.fdiv (2 ^ (k + 3)) % 2)] := by
  simp [writtenF, List.range_succ, List.getD_eq_getElem?_getD, h]
theorem strs_of_carried : ∀ {vs : List Value} {xs : List Str}, CarriedAll vs (xs.map PyData.str) → StrsAre vs xs := by
  intro vs xs
  induction xs generalizing vs with
  | nil => intro h; cases h; exact .nil
  | cons x xs ih =>
    intro h
    cases h with
    | cons h1 r => cases h1 with | str => exact .cons x _ (ih r)
noncomputable def wordEnc (x : Str) : Bool := x.cps.toList.all okC && !x.cps.toList.isEmpty && ((Txt.replace x (Str.ofString "\t") (Str.ofString "\\\t")).cps.toList == x.cps.toList.flatMap escQ) && ((Txt.join (Str.ofString "") (x.cps.toList.map escF)).cps.toList == x.cps.toList.flatMap escB)
theorem words_enc_all : (List.range 5).all (fun a => (List.range 5).all fun b => (b > a) || (List.range 2).all fun c => (wordsF (stepF (c : Int)) (cutF (1 + (a : Int)) (1 + (b : Int)) 5) 5).all fun x => wordOk x && wordEnc x) = true := by decide +kernel
theorem words_enc {f g q : Int} (h1 : 1 ≤ f) (h2 : f ≤ 5) (h3 : 1 ≤ g) (h4 : g ≤ f) (h5 : 0 ≤ q) (h6 : q < 2) : ∀ x ∈ wordsF (stepF q) (cutF f g 5) 5, wordOk x = true ∧ wordEnc x = true := by
  k_with_none
  k_with "om" => with_reducible first | exact Mine.om3 (by assumption) | exact Mine.om84 (by assumption) | exact Mine.om67 (by assumption) (by assumption) | exact Mine.om41 (by assumption) | exact Mine.om144 (by assumption) | fail
  have h := words_enc_all
  rw [List.all_eq_true] at h
  have ha := h (f - 1).toNat (List.mem_range.mpr (by omega))
  rw [List.all_eq_true] at ha
  have hb := ha (g - 1).toNat (List.mem_range.mpr (by omega))
  rw [Bool.or_eq_true] at hb
  rcases hb with hb | hb
  · exact absurd (of_decide_eq_true hb) (by omega)
  rw [List.all_eq_true] at hb
  have hc := hb q.toNat (List.mem_range.mpr (by omega))
  rw [List.all_eq_true] at hc
  have e1 : (1 + (((f - 1).toNat : Nat) : Int)) = f := by omega
  have e2 : (1 + (((g - 1).toNat : Nat) : Int)) = g := by omega
  have e3 : ((q.toNat : Nat) : Int) = q := by omega
  rw [e1, e2, e3] at hc
  intro x hx
  have := hc x hx
  rw [Bool.and_eq_true] at this
  exact this
theorem wordOk_is {x : Str} (h : wordOk x = true) : x.cps.size ≤ 60 ∧ x.cps.all (· < 128) = true ∧ (Txt.replace x (Str.ofString "\t") (Str.ofString "\\\t")).length ≤ 130 ∧ (Txt.join (Str.ofString "") (x.cps.toList.map escF)).length ≤ 130 := by
  simp only [wordOk, Bool.and_eq_true, decide_eq_true_eq] at h
  exact ⟨h.1.1.1, h.1.1.2, h.1.2, h.2⟩
theorem wordEnc_is {x : Str} (h : wordEnc x = true) : (∀ c ∈ x.cps.toList, okC c = true) ∧ x.cps.toList ≠ [] ∧ (Txt.replace x (Str.ofString "\t") (Str.ofString "\\\t")).cps.toList = x.cps.toList.flatMap escQ ∧ (Txt.join (Str.ofString "") (x.cps.toList.map escF)).cps.toList = x.cps.toList.flatMap escB := by
  simp only [wordEnc, Bool.and_eq_true, beq_iff_eq, Bool.not_eq_true', List.all_eq_true, List.isEmpty_eq_false_iff] at h
  exact ⟨h.1.1.1, h.1.1.2, h.1.2, h.2⟩
theorem write_len {x : Str} {b : Int} (h : wordOk x = true) : (writeF x b).length ≤ 132 := by
  k_with_none
  k_with "om" => with_reducible first | exact Mine.om361 (by assumption) (by assumption) | exact Mine.om384 (by assumption) (by assumption) | fail
  obtain ⟨_, _, h3, h4⟩ := wordOk_is h
  have e1 : (Str.ofString "\"").length = 1 := by decide +kernel
  have e2 : (Str.ofString "\n\n").length = 2 := by decide +kernel
  unfold writeF
  split <;> simp only [Str.length_append] <;> omega
theorem written_len {ws : List Str} {n : Int} (hl : ws.length = 5) (h : ∀ x ∈ ws, wordOk x = true) : ∀ y ∈ writtenF ws n 5, y.length ≤ 132 := by
  k_with_none
  k_with "om" => with_reducible first | exact Mine.om58 (by assumption) (by assumption) | fail
  intro y hy
  obtain ⟨i, hi, rfl⟩ := List.mem_map.mp hy
  have hi := List.mem_range.mp hi
  refine write_len (h _ ?_)
  rw [List.getD_eq_getElem?_getD, List.getElem?_eq_getElem (by omega)]
  exact List.getElem_mem _
theorem written_count (ws : List Str) (n : Int) : (writtenF ws n 5).length = 5 := by simp [writtenF]
theorem sum_le {l : List Str} {m : Nat} (h : ∀ y ∈ l, y.length ≤ m) : (l.map fun x : Str => x.length).sum ≤ m * l.length := by
  k_with_none
  k_with "om" => with_reducible first | exact Mine.om370 (by assumption) (by assumption) | fail
  induction l with
  | nil => simp
  | cons a r ih =>
    have h1 := h a (.head _)
    have h2 := ih fun y hy => h y (.tail _ hy)
    simp only [List.map_cons, List.sum_cons, List.length_cons, Nat.mul_succ]
    omega
theorem join_cps : ∀ l : List Str, (Txt.join (Str.ofString "") l).cps.toList = l.flatMap fun x => x.cps.toList := by
  have e : (Str.ofString "").cps = #[] := by decide +kernel
  intro l
  show (glued (Str.ofString "") l).cps.toList = _
  rw [StrLaws.glued_eq_join]
  induction l with
  | nil => rfl
  | cons a r ih =>
    cases r with
    | nil => simp [Str.join]
    | cons b r =>
      show (a ++ Str.ofString "" ++ Str.join (Str.ofString "") (b :: r)).cps.toList = _
      show ((a.cps ++ (Str.ofString "").cps) ++ (Str.join (Str.ofString "") (b :: r)).cps).toList = _
      rw [e, Array.append_empty, Array.toList_append, ih]
      rfl
theorem written_sums {ws : List Str} {n : Int} (hl : ws.length = 5) (h : ∀ x ∈ ws, wordOk x = true) :
    ((writtenF ws n 5).map (fun x : Str => x.length)).sum + (writtenF ws n 5).length ≤ 1048576 ∧ (Txt.join (Str.ofString "") (writtenF ws n 5)).length ≤ 1000 := by
  k_with_none
  k_with "om" => with_reducible first | exact Mine.om432 (by assumption) (by assumption) | exact Mine.om446 (by assumption) | fail
  have h1 := sum_le (written_len (n := n) hl h)
  rw [written_count] at h1 ⊢
  refine ⟨by omega, ?_⟩
  have h2 : (Txt.join (Str.ofString "") (writtenF ws n 5)).length = ((writtenF ws n 5).map (fun x : Str => x.length)).sum := by
    show (Txt.join (Str.ofString "") (writtenF ws n 5)).cps.size = _
    rw [← Array.length_toList, join_cps, List.length_flatMap]
    rfl
  omega
noncomputable def strip10 (l : List Nat) : List Nat := (l.reverse.dropWhile (· == 10)).reverse
theorem drop_takeWhile (p : Nat → Bool) : ∀ l : List Nat, l.drop (l.takeWhile p).length = l.dropWhile p
  | [] => rfl
  | a :: r => by
    rw [List.takeWhile_cons, List.dropWhile_cons]
    cases p a with
    | true => simpa using drop_takeWhile p r
    | false => rfl
theorem rstrip_cps (x : Str) : (Txt.rstripChars x (Str.ofString "\n")).cps.toList = strip10 x.cps.toList := by
  unfold Txt.rstripChars
  rw [PyProof.Rows.stripBy_eq, StrLaws.strSub_toList]
  show ((x.cps.toList.drop 0).take (x.length - ((x.cps.toList.drop 0).reverse.takeWhile (Str.ofString "\n").cps.contains).length - 0)) = _
  rw [List.drop_zero, Nat.sub_zero, cps_nl]
  have e : (#[10] : Array Nat).contains = (fun c => c == 10) := by
    funext c
    simp [Array.contains]
  rw [e]
  show x.cps.toList.take (x.cps.size - _) = _
  rw [← Array.length_toList]
  generalize x.cps.toList = l
  unfold strip10
  rw [← drop_takeWhile, List.reverse_drop, List.reverse_reverse, List.length_reverse]
theorem strip_app {u v : List Nat} (h : strip10 v ≠ []) : strip10 (u ++ v) = u ++ strip10 v := by
  unfold strip10 at h ⊢
  rw [List.reverse_append, List.dropWhile_append]
  have : (v.reverse.dropWhile (· == 10)).isEmpty = false := by
    rw [List.isEmpty_eq_false_iff]
    intro e
    exact h (by rw [e]; rfl)
  rw [this]
  simp
theorem strip_no {u : List Nat} (h : u.count 10 = 0) : strip10 u = u := by
  have hm : 10 ∉ u := List.count_eq_zero.mp h
  unfold strip10
  cases hr : u.reverse with
  | nil => rw [List.reverse_eq_nil_iff.mp hr]; rfl
  | cons a r =>
    have ha : a ∈ u := by rw [← List.mem_reverse, hr]; exact .head _
    rw [List.dropWhile_cons, if_neg (by simp; intro e; exact hm (e ▸ ha)), ← hr, List.reverse_reverse]
theorem strip_two (u : List Nat) : strip10 (u ++ [10, 10]) = strip10 u := by
  unfold strip10
  simp
noncomputable def encA (l : List (List Nat × Bool)) : List Nat := l.flatMap fun p => if p.2 then p.1.flatMap escB ++ [10, 10] else 34 :: (p.1.flatMap escQ ++ [34])
theorem escB_ne {x : List Nat} (h : x ≠ []) : x.flatMap escB ≠ [] := by
  cases x with
  | nil => exact absurd rfl h
  | cons c r =>
    rw [List.flatMap_cons]
    unfold escB
    split <;> simp
theorem enc_strip : ∀ (l : List (List Nat × Bool)), (∀ p ∈ l, p.1 ≠ [] ∧ ∀ c ∈ p.1, okC c = true) → strip10 (encA l) = encS l ∧ (l ≠ [] → encS l ≠ [])
  | [], _ => ⟨rfl, fun h => absurd rfl h⟩
  | [(x, b)], h => by
    obtain ⟨hx, hok⟩ := h _ (.head _)
    obtain ⟨c1, c2⟩ := count_word hok
    cases b with
    | true =>
      refine ⟨?_, fun _ => escB_ne hx⟩
      show strip10 ((x.flatMap escB ++ [10, 10]) ++ []) = x.flatMap escB
      rw [List.append_nil, strip_two, strip_no c1]
    | false =>
      refine ⟨?_, fun _ => by simp [encS]⟩
      show strip10 ((34 :: (x.flatMap escQ ++ [34])) ++ []) = 34 :: (x.flatMap escQ ++ [34])
      rw [List.append_nil]
      exact strip_no (by simp [c2])
  | (x, b) :: y :: r, h => by
    obtain ⟨ih1, ih2⟩ := enc_strip (y :: r) fun p hp => h p (.tail _ hp)
    have hne := ih2 (by simp)
    constructor
    · show strip10 (_ ++ encA (y :: r)) = _
      rw [strip_app (by rw [ih1]; exact hne), ih1]
      rfl
    · intro _ e
      have := List.append_eq_nil_iff.mp e
      exact hne this.2
theorem occ_count {x : Str} {c : Nat} : ∀ (k a : Nat) (found : Array Nat) (free : Nat), a + k = x.length + 1 → free ≤ a → found.size ≤ a →
    (forIn (List.range' a k) (found, free) (StrLaws.occBody x ⟨#[c]⟩ x.length (x.length + 1))).run.fst.size = found.size + (x.cps.toList.drop a).count c
  | 0, a, found, free, hk, _, _ => by
    k_with_none
    k_with "om" => with_reducible first | exact Mine.om31 (by assumption) | exact Mine.om116 (by assumption) | exact Mine.om87 (by assumption) | exact Mine.om268 (by assumption) (by assumption) | exact Mine.om273 (by assumption) (by assumption) | exact Mine.om284 (by assumption) (by assumption) | exact Mine.om313 (by assumption) | exact Mine.om319 (by assumption) (by assumption) | exact Mine.om396 (by assumption) (by assumption) | fail
    rw [List.drop_eq_nil_of_le (by rw [Array.length_toList]; show x.cps.size ≤ a; have : x.cps.size = x.length := rfl; omega)]
    rfl
  | k + 1, a, found, free, hk, hf, hs => by
    have hlen : x.cps.size = x.length := rfl
    rw [List.range'_succ, List.forIn_cons]
    unfold StrLaws.occBody
    have hsub : (⟨#[c]⟩ : Str).length = 1 := rfl
    by_cases ha : a < x.length
    · have hd : x.cps.toList.drop a = x.cps.toList[a]'(by rw [Array.length_toList]; omega) :: x.cps.toList.drop (a + 1) := List.drop_eq_getElem_cons _
      have hs1 : subAt x ⟨#[c]⟩ a = (x.cps.toList[a]'(by rw [Array.length_toList]; omega) == c) := by
        rw [StrLaws.subAt_eq, hd, hsub]
        simp
      by_cases e : x.cps.toList[a]'(by rw [Array.length_toList]; omega) = c
      · have hc : ((found.size < x.length + 1 ∧ free ≤ a) ∧ a + (⟨#[c]⟩ : Str).length ≤ x.length) ∧ subAt x ⟨#[c]⟩ a = true := ⟨⟨⟨by omega, hf⟩, by rw [hsub]; omega⟩, by rw [hs1, e]; exact beq_self_eq_true c⟩
        rw [if_pos hc]
        have ih := occ_count (x := x) (c := c) k (a + 1) (found.push a) (a + 1) (by omega) (Nat.le_refl _) (by rw [Array.size_push]; omega)
        rw [hd, e, List.count_cons_self]
        rw [Array.size_push] at ih
        refine Eq.trans ih ?_
        omega
      · have hc : ¬ (((found.size < x.length + 1 ∧ free ≤ a) ∧ a + (⟨#[c]⟩ : Str).length ≤ x.length) ∧ subAt x ⟨#[c]⟩ a = true) := fun q => e (by have := q.2; rw [hs1] at this; exact beq_iff_eq.mp this)
        rw [if_neg hc]
        have ih := occ_count (x := x) (c := c) k (a + 1) found free (by omega) (by omega) (by omega)
        rw [hd, List.count_cons_of_ne e]
        exact ih
    · have hc : ¬ (((found.size < x.length + 1 ∧ free ≤ a) ∧ a + (⟨#[c]⟩ : Str).length ≤ x.length) ∧ subAt x ⟨#[c]⟩ a = true) := fun q => by have := q.1.2; rw [hsub] at this; omega
      rw [if_neg hc]
      have ih := occ_count (x := x) (c := c) k (a + 1) found free (by omega) (by omega) (by omega)
      have e1 : x.cps.toList.drop a = [] := List.drop_eq_nil_of_le (by rw [Array.length_toList]; omega)
      have e2 : x.cps.toList.drop (a + 1) = [] := List.drop_eq_nil_of_le (by rw [Array.length_toList]; omega)
      rw [e1]
      rw [e2] at ih
      exact ih
theorem count_sign (x : Str) (c : Nat) : Txt.count x ⟨#[c]⟩ = (x.cps.toList.count c : Nat) := by
  k_with_none
  k_with "om" => with_reducible first | exact Mine.om463 | fail
  unfold Txt.count
  rw [StrLaws.occ_eq, Array.length_toList]
  have := occ_count (x := x) (c := c) (x.length + 1) 0 #[] 0 (by omega) (Nat.le_refl _) (Nat.le_refl _)
  rw [Nat.sub_zero]
  rw [this]
  simp
theorem str_of_cps {s : String} {c : Nat} (h : (Str.ofString s).cps = #[c]) : Str.ofString s = ⟨#[c]⟩ := by
  cases hs : Str.ofString s with | mk a => rw [hs] at h; dsimp only at h; subst h; rfl
theorem write_cps {x : Str} {b : Int} (h : wordEnc x = true) : (writeF x b).cps.toList = if b ≠ 0 then x.cps.toList.flatMap escB ++ [10, 10] else 34 :: (x.cps.toList.flatMap escQ ++ [34]) := by
  obtain ⟨_, _, h3, h4⟩ := wordEnc_is h
  have e1 : (Str.ofString "\"").cps = #[34] := by decide +kernel
  have e2 : (Str.ofString "\n\n").cps = #[10, 10] := by decide +kernel
  unfold writeF
  by_cases hb : b = 0
  · rw [if_pos hb, if_neg (fun q => q hb)]
    show (((Str.ofString "\"").cps ++ (Txt.replace x (Str.ofString "\t") (Str.ofString "\\\t")).cps) ++ (Str.ofString "\"").cps).toList = _
    rw [e1, Array.toList_append, Array.toList_append, h3]
    simp
  · rw [if_neg hb, if_pos hb]
    show ((Txt.join (Str.ofString "") (x.cps.toList.map escF)).cps ++ (Str.ofString "\n\n").cps).toList = _
    rw [e2, Array.toList_append, h4]
theorem five_map {ws : List Str} (hl : ws.length = 5) : ((List.range 5).map fun i => (⟨(ws.getD i (Str.ofString "")).cps.toList.toArray⟩ : Str)) = ws := by
  match ws, hl with
  | [a, b, c, d, e], _ => simp [List.range_succ]
/-- the text is read as it was written -/
theorem text_read {ws : List Str} {n : Int} (hl : ws.length = 5) (h : ∀ x ∈ ws, wordEnc x = true) {tx : Str} (ht : tx = Txt.rstripChars (Txt.join (Str.ofString "") (writtenF ws n 5)) (Str.ofString "\n")) :
    toksN (signs tx, 1) 6 = ws ++ [Str.ofString ""] ∧ rdN (signs tx, 1) 6 = ([], 1 + Txt.count tx (Str.ofString "\n")) := by
  let l : List (List Nat × Bool) := (List.range 5).map fun i => ((ws.getD i (Str.ofString "")).cps.toList, decide (n.fdiv (2 ^ (i + 3)) % 2 ≠ 0))
  have hmem : ∀ i < 5, wordEnc (ws.getD i (Str.ofString "")) = true := fun i hi => h _ (by
    rw [List.getD_eq_getElem?_getD, List.getElem?_eq_getElem (by omega)]
    exact List.getElem_mem _)
  have hll : l.length = 5 := by simp [l]
  have hok : ∀ p ∈ l, p.1 ≠ [] ∧ ∀ c ∈ p.1, okC c = true := by
    intro p hp
    obtain ⟨i, hi, rfl⟩ := List.mem_map.mp hp
    have := wordEnc_is (hmem i (List.mem_range.mp hi))
    exact ⟨this.2.1, this.1⟩
  have hws : (l.map fun p => (⟨p.1.toArray⟩ : Str)) = ws := by
    show List.map _ ((List.range 5).map _) = ws
    rw [List.map_map]
    exact five_map hl
  have henc : (Txt.join (Str.ofString "") (writtenF ws n 5)).cps.toList = encA l := by
    rw [join_cps]
    show List.flatMap _ ((List.range 5).map _) = List.flatMap _ ((List.range 5).map _)
    rw [List.flatMap_map, List.flatMap_map]
    have : ∀ i ∈ List.range 5, (writeF (ws.getD i (Str.ofString "")) (n.fdiv (2 ^ (i + 3)) % 2)).cps.toList = (if decide (n.fdiv (2 ^ (i + 3)) % 2 ≠ 0) then (ws.getD i (Str.ofString "")).cps.toList.flatMap escB ++ [10, 10] else 34 :: ((ws.getD i (Str.ofString "")).cps.toList.flatMap escQ ++ [34])) := by
      intro i hi
      rw [write_cps (hmem i (List.mem_range.mp hi))]
      simp only [decide_eq_true_eq]
    rw [List.flatMap_def, List.flatMap_def]
    exact congrArg List.flatten (List.map_congr_left this)
  have hcps : tx.cps.toList = encS l := by
    rw [ht, rstrip_cps, henc, (enc_strip l hok).1]
  have hsig : signs tx = (encS l).map sg := by
    show tx.cps.toList.map _ = _
    rw [hcps]
    rfl
  have hcount : Txt.count tx (Str.ofString "\n") = ((encS l).count 10 : Nat) := by
    rw [str_of_cps cps_nl, count_sign, hcps]
  obtain ⟨r1, r2⟩ := read_all l hok [] 1 (.inl rfl)
  rw [List.nil_append, hll] at r1 r2
  rw [hsig, hcount, r1, r2, hws]
  refine ⟨rfl, ?_⟩
  simp
theorem signs_len (x : Str) : (signs x).length = x.length := by simp [signs, Str.length]
theorem signs_one (x : Str) : ∀ y ∈ signs x, y.length = 1 := by
  intro y hy
  obtain ⟨c, _, rfl⟩ := List.mem_map.mp hy
  rfl
theorem rstrip_len (x y : Str) : (Txt.rstripChars x y).length ≤ x.length := by
  unfold Txt.rstripChars
  rw [PyProof.Rows.stripBy_eq]
  show (strSub _ _ _).cps.size ≤ _
  rw [← Array.length_toList, StrLaws.strSub_toList, List.length_take, List.length_drop, Array.length_toList]
  show _ ≤ x.cps.size
  omega
end Mine
end
-- P3
section
theorem Mine.resetP3 : True := by (w_top off; trivial)
open PySem PySem.W PyProof.Rows PyProof.Rows.LCg
set_option Elab.async false
set_option maxRecDepth 100000
set_option maxHeartbeats 8000000
namespace Mine
theorem ex5 {h₀ h : Heap} {L : Addr} {a b c d e : Addr × Obj} {X1 : List (Addr × Obj)} (_N : News h₀ L h (a :: b :: c :: d :: e :: X1)) : ∃ X, X = X1 := ⟨_, rfl⟩
/-- the reading's ledger in one turn, put in order -/
theorem news_read {h₀ h : Heap} {L : Addr} {c d a b : Addr × Obj} {Y own X1 : List (Addr × Obj)} (N : News h₀ L h (c :: d :: Y)) (hX : ∀ p ∈ a :: b :: X1, p ∈ Y) (ho : ∀ p ∈ own, p ∈ Y) : News h₀ L h (a :: b :: c :: d :: (own ++ X1)) := fun p hp => N p (by
  simp only [List.mem_cons, List.mem_append] at hp ⊢
  rcases hp with h | h | h | h | h | h
  · exact .inr (.inr (hX p (h ▸ .head _)))
  · exact .inr (.inr (hX p (h ▸ .tail _ (.head _))))
  · exact .inl h
  · exact .inr (.inl h)
  · exact .inr (.inr (ho p h))
  · exact .inr (.inr (hX p (.tail _ (.tail _ h)))))
end Mine
end
-- P4
section
theorem Mine.resetP4 : True := by (w_top off; trivial)
open PySem PySem.W PyProof.Rows PyProof.Rows.LCg
set_option Elab.async false
set_option maxRecDepth 100000
set_option maxHeartbeats 8000000
namespace Mine
theorem strs_dat {news : List (Addr × Obj)} : ∀ {vs : List Value} {ts : List Str}, StrsAre vs ts → DatAll news vs (ts.map Dat.str)
  | _, _, .nil => .nil
  | _, _, .cons x t r => .cons (.str x t) (strs_dat r)
theorem strs_snoc' {vs : List Value} {ts : List Str} (h : StrsAre vs ts) (x : Str) (t : Tok) : StrsAre (vs ++ [.str x t]) (ts ++ [x]) := strs_app h (.cons x t .nil)
theorem ok_of_word {x : Str} (h : wordEnc x = true) : PyData.strOk x = true := by
  k_with_none
  k_with "om" => with_reducible first | exact Mine.om390 (by assumption) | fail
  have h1 := (wordEnc_is h).1
  unfold PyData.strOk
  rw [Array.all_eq_true']
  intro c hc
  have := okC_cases (h1 c (Array.mem_toList_iff.mpr hc))
  exact decide_eq_true (by omega)
section
variable {prog : Program} {w : World} {A : Around} {E : Value → Shared → Prop} {s : Shared} {h₀ : Heap} {L a b : Addr} {news : List (Addr × Obj)} {xs ys : List Value} {Q : Value → Shared → Prop}
/-- two lists of the same texts -/
theorem ne_strs {ka kb : Nat} {ts : List Str} (N : News h₀ L s.heap news) (ma : (a, listOf xs.toArray ka) ∈ news) (mb : (b, listOf ys.toArray kb) ∈ news) (ha : StrsAre xs ts) (hb : StrsAre ys ts) (hok : ∀ t ∈ ts, PyData.strOk t = true) (hu : A.units + 64 < cLine)
    (h : Q (.bool false) s) : wpAny (model prog w) A (compareOp .NotEq (.ref a) (.ref b)) Q E s := by
  have hk : ∀ d ∈ ts.map Dat.str, kqdOk 8 d = true := by
    intro d hd
    obtain ⟨t, ht, rfl⟩ := List.mem_map.mp hd
    exact hok t ht
  classical
  refine kqd_ne (n₁ := []) (n₂ := []) N ma rfl rfl (strs_dat ha) (fun _ hp => nomatch hp) mb rfl rfl (strs_dat hb) (fun _ hp => nomatch hp) hk hk hu ?_
  simpa using h
end
end Mine
namespace Mine
theorem news_tail3 {h₀ h : Heap} {L : Addr} {a b c : Addr × Obj} {X : List (Addr × Obj)} (N : News h₀ L h (a :: b :: c :: X)) : News h₀ L h X := fun p hp => N p (.tail _ (.tail _ (.tail _ hp)))
end Mine
end
-- P6
section
theorem Mine.resetP6 : True := by (w_top off; trivial)
open PySem PySem.W PyProof.Rows PyProof.Rows.LCg
set_option Elab.async false
set_option maxRecDepth 100000
set_option maxHeartbeats 8000000
namespace Mine
theorem WsIn.two {w : World} {news : List (Addr × Obj)} {x : Addr} {ws : Str} {G : Prop} (h : WsIn w news x ws)
    (q : ∀ dx k T tr t1 tn1 tn2 tt1 tt2 tm ts, (x, instObj 139 dx) ∈ news →
      (dx, dictOf [⟨PyData.keyHash w.params (Str.ofString "raw"), .str (Str.ofString "raw") tr, .str ws t1⟩, ⟨PyData.keyHash w.params (Str.ofString "n"), .str (Str.ofString "n") tn1, .int (wsF ws).n tn2⟩,
        ⟨PyData.keyHash w.params (Str.ofString "nt"), .str (Str.ofString "nt") tt1, .int (wsF ws).nt tt2⟩, ⟨PyData.keyHash w.params (Str.ofString "norm"), .str (Str.ofString "norm") tm, .ref T⟩,
        ⟨PyData.keyHash w.params (Str.ofString "is_simple"), .str (Str.ofString "is_simple") ts, .bool (decide (((wsF ws).count.length : Int) ≤ 1))⟩] k) ∈ news → G) : G := by
  obtain ⟨dx, k, T, C, kT, kC, cvs, tr, t1, tn1, tn2, tt1, tt2, tm, ts, tb, h1, h2, _⟩ := h
  exact q dx k T tr t1 tn1 tn2 tt1 tt2 tm ts h1 h2
/-- a list of the Whitespace instances of these texts -/
inductive LeadsAre (w : World) (T : List (Addr × Obj)) : List Value → List Str → Prop
  | nil : LeadsAre w T [] []
  | cons {a : Addr} {x : Str} {vs : List Value} {xs : List Str} : WsIn w T a x → LeadsAre w T vs xs → LeadsAre w T (.ref a :: vs) (x :: xs)
theorem LeadsAre.mono {w : World} {T T' : List (Addr × Obj)} (h : ∀ p ∈ T, p ∈ T') : ∀ {vs : List Value} {xs : List Str}, LeadsAre w T vs xs → LeadsAre w T' vs xs := by
  intro vs xs r
  induction r with
  | nil => exact .nil
  | cons q _ ih => exact .cons (q.mono h) ih
theorem LeadsAre.snoc {w : World} {T : List (Addr × Obj)} {a : Addr} {x : Str} (hm : WsIn w T a x) : ∀ {vs : List Value} {xs : List Str}, LeadsAre w T vs xs → LeadsAre w T (vs ++ [.ref a]) (xs ++ [x]) := by
  intro vs xs r
  induction r with
  | nil => exact .cons hm .nil
  | cons q _ ih => exact .cons q ih
theorem LeadsAre.length {w : World} {T : List (Addr × Obj)} : ∀ {vs : List Value} {xs : List Str}, LeadsAre w T vs xs → vs.length = xs.length := by
  intro vs xs r
  induction r with
  | nil => rfl
  | cons _ _ ih => exact congrArg Nat.succ ih
theorem LeadsAre.at {w : World} {T : List (Addr × Obj)} : ∀ {vs : List Value} {xs : List Str}, LeadsAre w T vs xs → ∀ {i : Nat} {v : Value}, vs[i]? = some v → ∃ a x, v = .ref a ∧ xs[i]? = some x ∧ WsIn w T a x := by
  intro vs xs r
  induction r with
  | nil => exact fun e => nomatch e
  | cons q _ ih =>
    intro i v e
    cases i with
    | zero => exact ⟨_, _, (Option.some.inj e).symm, rfl, q⟩
    | succ i => exact ih e
theorem ex3 {h₀ h : Heap} {L : Addr} {a b c : Addr × Obj} {X1 : List (Addr × Obj)} (_N : News h₀ L h (a :: b :: c :: X1)) : ∃ X, X = X1 := ⟨_, rfl⟩
theorem news_swap {h₀ h : Heap} {L : Addr} {d : Addr × Obj} {TN fx keep : List (Addr × Obj)} (N : News h₀ L h (d :: (TN ++ (fx ++ keep)))) : News h₀ L h (d :: (fx ++ (TN ++ keep))) :=
  allC (N _ (.head _)) (allA (fun p hp => N p (.tail _ (List.mem_append_right _ (List.mem_append_left _ hp)))) (allA (fun p hp => N p (.tail _ (List.mem_append_left _ hp))) (fun p hp => N p (.tail _ (List.mem_append_right _ (List.mem_append_right _ hp))))))
theorem news_in16 {h₀ h : Heap} {L : Addr} {d a1 a2 a3 a4 a5 a6 a7 a8 a9 b1 b2 b3 b4 b5 b6 b7 : Addr × Obj} {TN keep : List (Addr × Obj)} (N : News h₀ L h (d :: (TN ++ (a1 :: a2 :: a3 :: a4 :: a5 :: a6 :: a7 :: a8 :: a9 :: b1 :: b2 :: b3 :: b4 :: b5 :: b6 :: b7 :: keep)))) :
    News h₀ L h (d :: a1 :: a2 :: a3 :: a4 :: a5 :: a6 :: a7 :: a8 :: a9 :: b1 :: b2 :: b3 :: b4 :: b5 :: b6 :: b7 :: (TN ++ keep)) := news_swap (fx := [a1, a2, a3, a4, a5, a6, a7, a8, a9, b1, b2, b3, b4, b5, b6, b7]) N
theorem take_at {α : Type} {l : List α} {i : Nat} {c : α} (h : l[i]? = some c) : l.take (i + 1) = l.take i ++ [c] := take_snoc h
end Mine
end
-- P7
section
theorem Mine.resetP7 : True := by (w_top off; trivial)
open PySem PySem.W PyProof.Rows PyProof.Rows.LCg
set_option Elab.async false
set_option maxRecDepth 100000
set_option maxHeartbeats 8000000
namespace Mine
section
variable {prog : Program} {w : World} {A : Around} {s : Shared} {env : Env} {R : Result → Shared → Prop} {h₀ : Heap} {L : Addr} {m : Str → Option Value}
variable {elt : Expr} {scope : Scope} {cl : List (Str × Addr)} {pos : Pos} {it : Value} {iter : Expr} {ifs : List Expr} {C D B : Addr} {n : Nat} {dep : List (Addr × Obj)} {Own : Nat → List (Addr × Obj) → Prop} {P : Nat → Value → List (Addr × Obj) → Prop}
/-- a comprehension of one clause, its target a cell of its own -/
theorem comp1C {x : Str} {px : Pos} (hkind : scope.kind = .function) (hx : ∀ cl : List (Str × Addr), (compEnvC scope cl C env).kindOf x = some .cell) (I : LIt prog w A h₀ L (.Name x px) it n dep Own P) (hP : ∀ i v ext, P i v ext → ext = []) (J : Nat → List Value → List (Addr × Obj) → Prop)
    {X₀ own₀ : List (Addr × Obj)} {oC₀ oB₀ : Obj} {v₀ : Option Value} (F₀ : Fr h₀ L s.heap m) (N₀ : News h₀ L s.heap ((C, oC₀) :: (D, lst []) :: (own₀ ++ ((B, oB₀) :: X₀)))) (hB₀ : oB₀.data = .cell v₀) (hC₀ : NsObj oC₀ (fun _ => none)) (hO₀ : Own 0 own₀) (hd₀ : ∀ p ∈ dep, p ∈ X₀)
    (off₀ : ∀ q ∈ own₀, ∀ p ∈ (B, oB₀) :: X₀, p.1 ≠ q.1) (hlt : ∀ p ∈ own₀ ++ ((B, oB₀) :: X₀), p.1 ≠ C ∧ p.1 ≠ D) (hDC : @LT.lt Nat _ D C) (hXB : ∀ p ∈ X₀, p.1 ≠ B) (hJ₀ : J 0 [] X₀) (hsz : ∀ i ys X, i ≤ n → J i ys X → ys.length ≤ 100000)
    (turn : ∀ i v ys X own Y oC oB m₂ h tk (E' : Value → Shared → Prop), i < n → P i v [] → J i ys X → NsObj oC m₂ → oB.data = .cell (some v) → Fr h₀ L h m → News h₀ L h ((C, oC) :: (D, lst ys) :: Y) → (B, oB) ∈ Y → (∀ p ∈ X, p ∈ Y) → (∀ p ∈ own, p ∈ Y) → (∀ p ∈ Y, p.1 ≠ C ∧ p.1 ≠ D) → (∀ q ∈ own, ∀ p ∈ (B, oB) :: X, p.1 ≠ q.1) → (∀ p ∈ X, p.1 ≠ B) → (∀ p ∈ dep, p ∈ X) →
        wpAny (model prog w) A (testsOf ifs (compEnvC scope ((x, B) :: cl) C env)) (fun ok s₄ => if ok = true then
          wpAny (model prog w) A (eval elt (compEnvC scope ((x, B) :: cl) C env)) (fun x s₅ => TEnd h₀ L m s dep own C D ys (fun ys _ X => ∃ X', X = (B, oB) :: X' ∧ (∀ p ∈ X', p.1 ≠ B) ∧ J (i + 1) ys X') (some x) s₅) E' s₄
        else TEnd h₀ L m s dep own C D ys (fun ys _ X => ∃ X', X = (B, oB) :: X' ∧ (∀ p ∈ X', p.1 ≠ B) ∧ J (i + 1) ys X') none s₄) E' { s with heap := h, toks := tk })
    (done : ∀ ys m₂ X oC oB h tk, J n ys X → NsObj oC m₂ → Fr h₀ L h m → News h₀ L h ((C, oC) :: (D, lst ys) :: (B, oB) :: X) → (∀ p ∈ (B, oB) :: X, p.1 ≠ C ∧ p.1 ≠ D) → R (.ok .next) { s with heap := h, toks := tk }) :
    codeAny (model prog w) A (.compStart (.ListComp elt [⟨.Name x px, iter, ifs, 0⟩] scope pos) 0 it (.ref D) (compEnvC scope ((x, B) :: cl) C env)) R s := by
  have hCD : @Ne Nat C D := Nat.ne_of_gt hDC
  refine compIt_start (own := own₀) (X := (B, oB₀) :: X₀) rfl I (fun p hp => N₀ p (.tail _ (.tail _ hp))) hO₀ ?_
  refine compIt_last rfl rfl I (fun i ys _ X => ∃ oB v X', X = (B, oB) :: X' ∧ oB.data = .cell v ∧ (∀ p ∈ X', p.1 ≠ B) ∧ (∀ p ∈ dep, p ∈ X') ∧ J i ys X' ∧ i ≤ n) F₀ N₀ hC₀ hO₀ (fun p hp => .tail _ (hd₀ p hp)) off₀ (fun p hp => hlt p (List.mem_append_right _ hp)) (fun p hp => hlt p (List.mem_append_left _ hp)) hCD ⟨oB₀, v₀, X₀, rfl, hB₀, hXB, hd₀, hJ₀, Nat.zero_le _⟩ (fun i ys m₂ X ⟨_, _, _, _, _, _, _, h, hi⟩ => hsz i ys _ hi h) ?_ ?_
  · rintro i v ext ys m₂ X own oC h tk E' hi hv ⟨oB, vB, X, rfl, hB, hXB, hdX, hJ, _⟩ hC F N hd hX hoC off hlt9
    obtain rfl := hP _ _ _ hv
    rw [List.nil_append] at N
    have hY : ∀ o', ∀ p ∈ ((B, o') :: X) ++ own, p.1 ≠ C ∧ p.1 ≠ D := fun o' p hp => by
      rcases List.mem_append.mp hp with hp | hp
      · rcases List.mem_cons.mp hp with rfl | hp
        · exact hX (B, oB) (.head _)
        · exact hX p (.tail _ hp)
      · exact hoC p hp
    have hoB : ∀ p ∈ own, p.1 ≠ B := fun p hp => (off p hp _ (.head _)).symm
    have hBC : C ≠ B := (hX (B, oB) (.head _)).1.symm
    have hBD : D ≠ B := (hX (B, oB) (.head _)).2.symm
    refine asgB (cl := (x, B) :: cl) hkind (hx _) (by simp) F N (UpdF.tail hBC (UpdF.tail hBD (UpdF.head fun p hp => (List.mem_append.mp hp).elim (hXB p) (hoB p)))) hB fun oB' h10 hB' F10 N10 => ?_
    have fix : ∀ xo s₅, TEnd h₀ L m s dep own C D ys (fun ys _ X => ∃ X', X = (B, oB') :: X' ∧ (∀ p ∈ X', p.1 ≠ B) ∧ J (i + 1) ys X') xo s₅ → TEnd h₀ L m s dep own C D ys (fun ys _ X => ∃ oB v X', X = (B, oB) :: X' ∧ oB.data = .cell v ∧ (∀ p ∈ X', p.1 ≠ B) ∧ (∀ p ∈ dep, p ∈ X') ∧ J (i + 1) ys X' ∧ i + 1 ≤ n) xo s₅ := by
      rintro xo s₅ ⟨a1, a2, a3, a4, a5, a6, b1, b2, b3, b4, b5, b6, b7, b8, b9, c1, c2, X', rfl, c4, c5⟩
      refine ⟨a1, a2, a3, a4, a5, _, b1, b2, b3, b4, b5, b6, b7, b8, b9, c1, c2, oB', _, X', rfl, hB', c4, fun p hp => ?_, c5, hi⟩
      rcases List.mem_cons.mp (b9 p hp) with rfl | h
      · exact absurd rfl (hXB _ (hdX _ hp))
      · exact h
    have off' : ∀ q ∈ own, ∀ p ∈ (B, oB') :: X, p.1 ≠ q.1 := fun q hq p hp => by
      rcases List.mem_cons.mp hp with rfl | hp
      · exact off q hq (B, oB) (.head _)
      · exact off q hq p (.tail _ hp)
    refine wpAny_mono (turn i v ys X own (((B, oB') :: X) ++ own) oC oB' m₂ h10 tk E' hi hv hJ hC hB' F10 N10 (.head _) (fun p hp => List.mem_append_left _ (.tail _ hp)) (fun p hp => List.mem_append_right _ hp) (hY oB') off' hXB hdX) (fun ok s₄ h₄ => ?_) fun _ _ e => e
    cases ok with
    | false => simp only [Bool.false_eq_true, if_false] at h₄ ⊢; exact fix _ _ h₄
    | true => simp only [if_true] at h₄ ⊢; exact wpAny_mono h₄ (fun x s₅ h₅ => fix _ _ h₅) fun _ _ e => e
  · rintro ys m₂ X oC h tk ⟨oB, vB, X, rfl, hB, hXB, hdX, hJ, _⟩ hC F N hX
    exact done ys m₂ X oC oB h tk hJ hC F N hX
end
theorem ok_take {l : List Nat} {k : Nat} (h : l.length ≤ k) : (l.foldl wsStep ⟨[], 0, 0, 0⟩).Ok k := by
  have := WsSt.Ok.all (x := l) k
  rwa [List.take_of_length_le h] at this
theorem wsOk {x : Str} (h : x.cps.size ≤ 60) : (wsF x).Ok 100 := by
  k_with_none
  k_with "om" => with_reducible first | exact Mine.om509 (by assumption) | fail
  unfold wsF
  refine ok_take (Nat.le_trans (List.takeWhile_sublist _).length_le ?_)
  rw [Array.length_toList]
  omega
/-- a list of lists of bools -/
inductive BBAre (T : List (Addr × Obj)) : List Value → List (List Bool) → Prop
  | nil : BBAre T [] []
  | cons {a : Addr} {n : Nat} {bs : List Bool} {vs : List Value} {ls : List (List Bool)} : (a, listOf (bs.map Value.bool).toArray n) ∈ T → BBAre T vs ls → BBAre T (.ref a :: vs) (bs :: ls)
theorem BBAre.mono {T T' : List (Addr × Obj)} (h : ∀ p ∈ T, p ∈ T') : ∀ {vs : List Value} {ls : List (List Bool)}, BBAre T vs ls → BBAre T' vs ls := by
  intro vs ls r
  induction r with
  | nil => exact .nil
  | cons q _ ih => exact .cons (h _ q) ih
theorem BBAre.snoc {T : List (Addr × Obj)} {a : Addr} {n : Nat} {bs : List Bool} (hm : (a, listOf (bs.map Value.bool).toArray n) ∈ T) : ∀ {vs : List Value} {ls : List (List Bool)}, BBAre T vs ls → BBAre T (vs ++ [.ref a]) (ls ++ [bs]) := by
  intro vs ls r
  induction r with
  | nil => exact .cons hm .nil
  | cons q _ ih => exact .cons q ih
theorem BBAre.length {T : List (Addr × Obj)} : ∀ {vs : List Value} {ls : List (List Bool)}, BBAre T vs ls → vs.length = ls.length := by
  intro vs ls r
  induction r with
  | nil => rfl
  | cons _ _ ih => exact congrArg Nat.succ ih
theorem BBAre.at {T : List (Addr × Obj)} : ∀ {vs : List Value} {ls : List (List Bool)}, BBAre T vs ls → ∀ {i : Nat} {v : Value}, vs[i]? = some v → ∃ a n bs, v = .ref a ∧ ls[i]? = some bs ∧ (a, listOf (bs.map Value.bool).toArray n) ∈ T := by
  intro vs xs r
  induction r with
  | nil => exact fun e => nomatch e
  | cons q _ ih =>
    intro i v e
    cases i with
    | zero => exact ⟨_, _, _, (Option.some.inj e).symm, rfl, q⟩
    | succ i => exact ih e
end Mine
namespace Mine
theorem ex4 {h₀ h : Heap} {L : Addr} {a b c d : Addr × Obj} {X1 : List (Addr × Obj)} (_N : News h₀ L h (a :: b :: c :: d :: X1)) : ∃ X, X = X1 := ⟨_, rfl⟩
theorem news_sw34 {h₀ h : Heap} {L : Addr} {a b c d : Addr × Obj} {X : List (Addr × Obj)} (N : News h₀ L h (a :: b :: c :: d :: X)) : News h₀ L h (a :: b :: ([d] ++ (c :: X))) :=
  allC (N _ (.head _)) (allC (N _ (.tail _ (.head _))) (allC (N _ (.tail _ (.tail _ (.tail _ (.head _))))) (allC (N _ (.tail _ (.tail _ (.head _)))) (fun p hp => N p (.tail _ (.tail _ (.tail _ (.tail _ (hp)))))))))
end Mine
namespace Mine
theorem news_in17 {h₀ h : Heap} {L : Addr} {d b0 a0 a1 a2 a3 a4 a5 a6 a7 a8 a9 b1 b2 b3 b4 b5 b6 b7 : Addr × Obj} {TN keep : List (Addr × Obj)} (N : News h₀ L h (d :: b0 :: (TN ++ (a0 :: a1 :: a2 :: a3 :: a4 :: a5 :: a6 :: a7 :: a8 :: a9 :: b1 :: b2 :: b3 :: b4 :: b5 :: b6 :: b7 :: keep)))) :
    News h₀ L h (d :: a0 :: a1 :: a2 :: a3 :: a4 :: a5 :: a6 :: a7 :: a8 :: a9 :: b1 :: b2 :: b3 :: b4 :: b5 :: b6 :: b7 :: (TN ++ keep)) := news_swap (fx := [a0, a1, a2, a3, a4, a5, a6, a7, a8, a9, b1, b2, b3, b4, b5, b6, b7]) fun p hp => N p ((List.mem_cons.mp hp).elim (fun e => e ▸ .head _) fun h => .tail _ (.tail _ h))
end Mine
namespace Mine
theorem news_tail2 {h₀ h : Heap} {L : Addr} {a b : Addr × Obj} {X : List (Addr × Obj)} (N : News h₀ L h (a :: b :: X)) : News h₀ L h X := fun p hp => N p (.tail _ (.tail _ hp))
end Mine
end
-- P8
section
theorem Mine.resetP8 : True := by (w_top off; trivial)
open PySem PySem.W PyProof.Rows PyProof.Rows.LCg
set_option Elab.async false
set_option maxRecDepth 100000
set_option maxHeartbeats 8000000
namespace Mine
section
variable {prog : Program} {w : World} {A : Around} {E : Value → Shared → Prop} {s : Shared} {env : Env} {h₀ : Heap} {L : Addr} {m : Str → Option Value}
/-- a comprehension one of whose own names is a cell -/
theorem ListComp_C {elt target iter : Expr} {ifs : List Expr} {rest : List Comprehension} {scope : Scope} {cl : List (Str × Addr)} {x : Str} {pos : Pos} {Q : Value → Shared → Prop} (_F₀ : Fr h₀ L s.heap m)
    (hclos : closureFor scope env = pure cl) (hcells : ∀ n, cellsFrom n scope.names cl = (x, n) :: cl) (hpush : ∀ h, pushCells h scope.names = h.push cell0) (hkind : scope.kind = .function)
    (hnames : ∀ y ∈ scope.names, y.2 = .local → scope.names.lookup y.1 = some .local)
    (h : wpAny (model prog w) A (eval iter env) (fun xv s₁ => wpAny (model prog w) A (pyIter xv) (fun itv s₂ => ∃ news, Fr h₀ L s₂.heap m ∧ News h₀ L s₂.heap news ∧ ∀ D C B oC h₁, NsObj oC (fun _ => none) → Fr h₀ L h₁ m → News h₀ L h₁ ((C, oC) :: (D, lst []) :: (B, cell0) :: news) → (∀ p ∈ news, p.1 < D) → @LT.lt Nat _ D C → @LT.lt Nat _ C B →
      codeAny (model prog w) A (.compStart (.ListComp elt (⟨target, iter, ifs, 0⟩ :: rest) scope pos) 0 itv (.ref D) (compEnvC scope ((x, B) :: cl) C env)) (CompDone h₀ L m Q C D s₂) { s₂ with heap := h₁ }) E s₁) E s)
    (hs : ∀ x, foldedSetIterable iter env x = pure x := by intro _; rfl) :
    wpAny (model prog w) A (eval (.ListComp elt (⟨target, iter, ifs, 0⟩ :: rest) scope pos) env) Q E s := by
  k_with_none
  k_with "om" => with_reducible first | exact Mine.om36 | fail
  rw [show eval (.ListComp elt (⟨target, iter, ifs, 0⟩ :: rest) scope pos) env = _ from eval_ListComp ..]
  refine wpAny_comprehension_free (use := none) rfl hs hclos hkind hnames (wpAny_mono h (fun xv s₁ h₁ => wpAny_mono h₁ (fun itv s₂ h₂ => ?_) fun _ _ e => e) fun _ _ e => e)
  obtain ⟨news, hq99⟩ := h₂
  refine anE3 hq99 ?_; clear hq99; intro F N K
  refine wpAny_newObj_type (env_lay ?_)
  dsimp only
  rw [hcells, hpush]
  generalize hH2 : s₂.heap.push { cls := .type "list", dict := none, data := .seq ([] : List Value).toArray } = H2
  have hC : H2.objs.size = s₂.heap.objs.size + 1 := by rw [← hH2, Heap.size_push]
  have F2 : Fr h₀ L H2 m := hH2 ▸ F.push _
  have N2 : News h₀ L H2 ((s₂.heap.objs.size, lst []) :: news) := hH2 ▸ N.push F _
  generalize hH3 : H2.push { cls := .type "dict", data := .dict #[] } = H3
  have hB : H3.objs.size = H2.objs.size + 1 := by rw [← hH3, Heap.size_push]
  have F3 : Fr h₀ L H3 m := hH3 ▸ F2.push _
  have N3 := N2.push F2 { cls := .type "dict", data := .dict #[] }
  rw [hH3] at N3
  have hns3 : H3.Ns H2.objs.size (fun _ => none) := hH3 ▸ Heap.Ns.new H2 (.type "dict")
  obtain ⟨oC, heC, hoC⟩ := ns_obj hns3
  have F4 : Fr h₀ L (H3.push cell0) m := F3.push _
  have N4 := N3.push F3 cell0
  rw [← hB]
  have heC' := (N3 _ (.head _)).1
  rw [heC] at heC'
  cases heC'
  have N5 : News h₀ L (H3.push cell0) ((H2.objs.size, _) :: (s₂.heap.objs.size, lst []) :: (H3.objs.size, cell0) :: news) := fun p hp => N4 p (by
    revert p; exact allC (.tail _ (.head _)) (allC (.tail _ (.tail _ (.head _))) (allC (.head _) (fun p hp => .tail _ (.tail _ (.tail _ hp))))))
  have hk := K s₂.heap.objs.size H2.objs.size H3.objs.size _ (H3.push cell0) hoC F4 N5 (fun p hp => Heap.lt_size (N p hp).1) (by rw [hC]; exact Nat.lt_succ_self _) (by rw [hB]; exact Nat.lt_succ_self _)
  refine codeAny_mono hk fun r s' hr => ?_
  cases r with
  | error e => exact hr.elim
  | ok f =>
    refine exE6 hr ?_; intro h' tk oC' m' ys news' hq101
    refine anE6 hq101 ?_; clear hq101; intro hr101 F' hm' N' hne hq
    clear hr
    subst hr101
    have zC := (N' _ (.head _))
    refine ⟨m', hm'.ns zC.1, fun h'' hs'' => hq h'' (F'.change hs'' zC.2.1 zC.2.2) fun p hp => ?_⟩
    refine ⟨hs''.extBut _ _ ?_ (N' p (.tail _ hp)).1, (N' p (.tail _ hp)).2⟩
    revert p; exact allC (Nat.ne_of_lt (by rw [hC]; exact Nat.lt_succ_self _)) (fun p hp => hne p hp)
end
/-- the places in a row of answers where the answer is True -/
noncomputable def rowN (bs : List Bool) (n : Nat) : List Int := ((List.range n).filter fun j => bs.getD j false).map fun (j : Nat) => (0 : Int) + (j : Int)
theorem rowN_yes {bs : List Bool} {n : Nat} (h : bs[n]? = some true) : rowN bs (n + 1) = rowN bs n ++ [(0 : Int) + (n : Int)] := by
  simp [rowN, List.range_succ, List.filter_append, List.getD_eq_getElem?_getD, h]
theorem rowN_no {bs : List Bool} {n : Nat} (h : bs[n]? = some false) : rowN bs (n + 1) = rowN bs n := by
  simp [rowN, List.range_succ, List.filter_append, List.getD_eq_getElem?_getD, h]
theorem rowN_len (bs : List Bool) (n : Nat) : (rowN bs n).length ≤ n := by
  unfold rowN
  rw [List.length_map]
  exact Nat.le_trans (List.length_filter_le _ _) (Nat.le_of_eq List.length_range)
theorem news_in18 {h₀ h : Heap} {L : Addr} {d b0 c0 a0 a1 a2 a3 a4 a5 a6 a7 a8 a9 b1 b2 b3 b4 b5 b6 b7 : Addr × Obj} {TN keep : List (Addr × Obj)} (N : News h₀ L h (d :: b0 :: (TN ++ (c0 :: a0 :: a1 :: a2 :: a3 :: a4 :: a5 :: a6 :: a7 :: a8 :: a9 :: b1 :: b2 :: b3 :: b4 :: b5 :: b6 :: b7 :: keep)))) :
    News h₀ L h (d :: c0 :: a0 :: a1 :: a2 :: a3 :: a4 :: a5 :: a6 :: a7 :: a8 :: a9 :: b1 :: b2 :: b3 :: b4 :: b5 :: b6 :: b7 :: (TN ++ keep)) := news_swap (fx := [c0, a0, a1, a2, a3, a4, a5, a6, a7, a8, a9, b1, b2, b3, b4, b5, b6, b7]) fun p hp => N p ((List.mem_cons.mp hp).elim (fun e => e ▸ .head _) fun h => .tail _ (.tail _ h))
end Mine
end
-- P9
section
theorem Mine.resetP9 : True := by (w_top off; trivial)
open PySem PySem.W PyProof.Rows PyProof.Rows.LCg
set_option Elab.async false
set_option maxRecDepth 100000
set_option maxHeartbeats 8000000
namespace Mine
theorem ints_app : ∀ {vs ws : List Value} {a b : List Int}, IntsAre vs a → IntsAre ws b → IntsAre (vs ++ ws) (a ++ b) := by
  intro vs ws a b r h
  induction r with
  | nil => exact h
  | cons n t _ ih => exact .cons n t ih
theorem ints_drop : ∀ (k : Nat) {vs : List Value} {a : List Int}, IntsAre vs a → IntsAre (vs.drop k) (a.drop k)
  | 0, _, _, h => h
  | _ + 1, _, _, .nil => .nil
  | k + 1, _, _, .cons _ _ r => ints_drop k r
theorem ints_take : ∀ (k : Nat) {vs : List Value} {a : List Int}, IntsAre vs a → IntsAre (vs.take k) (a.take k)
  | 0, _, _, _ => .nil
  | _ + 1, _, _, .nil => .nil
  | k + 1, _, _, .cons n t r => .cons n t (ints_take k r)
theorem news_cut2 {h₀ h : Heap} {L : Addr} {a b c : Addr × Obj} {X : List (Addr × Obj)} (N : News h₀ L h (a :: b :: c :: X)) : News h₀ L h (a :: X) := fun p hp => N p ((List.mem_cons.mp hp).elim (fun e => e ▸ .head _) fun h => .tail _ (.tail _ (.tail _ h)))
theorem news_cut1 {h₀ h : Heap} {L : Addr} {a b : Addr × Obj} {X : List (Addr × Obj)} (N : News h₀ L h (a :: b :: X)) : News h₀ L h (a :: X) := fun p hp => N p ((List.mem_cons.mp hp).elim (fun e => e ▸ .head _) fun h => .tail _ (.tail _ h))
/-- the sizes, begun at the p-th and round again -/
noncomputable def ordF (q1 q2 : Int) (p : Nat) : List Int := (cutF q1 q2 5).drop p ++ (cutF q1 q2 5).take p
noncomputable def ordOk (o : List Int) : Bool := decide (toldF (o ++ [127, 1]) 6 = o) && decide (toldF (o.reverse ++ [127, 1]) 6 = o.reverse) && decide ((o ++ [127, 1]).head? ≠ some 0) && decide ((o.reverse ++ [127, 1]).head? ≠ some 0) && decide (o.length ≤ 5)
theorem ord_all : (List.range 3).all (fun a => (List.range 3).all fun b => (List.range 5).all fun p => (decide ((cutF (1 + (a : Int)) (1 + (b : Int)) 5).length ≤ p)) || ordOk (ordF (1 + (a : Int)) (1 + (b : Int)) p)) = true := by decide +kernel
theorem ord_ok {q1 q2 : Int} {p : Nat} (h1 : 1 ≤ q1) (h2 : q1 ≤ 3) (h3 : 1 ≤ q2) (h4 : q2 ≤ 3) (h5 : p < (cutF q1 q2 5).length) (h6 : (cutF q1 q2 5).length ≤ 5) : toldF (ordF q1 q2 p ++ [127, 1]) 6 = ordF q1 q2 p ∧ toldF ((ordF q1 q2 p).reverse ++ [127, 1]) 6 = (ordF q1 q2 p).reverse ∧ (ordF q1 q2 p ++ [127, 1]).head? ≠ some 0 ∧ ((ordF q1 q2 p).reverse ++ [127, 1]).head? ≠ some 0 ∧ (ordF q1 q2 p).length ≤ 5 := by
  k_with_none
  k_with "om" => with_reducible first | exact Mine.om3 (by assumption) | exact Mine.om23 (by assumption) | exact Mine.om49 (by assumption) (by assumption) | fail
  have h := ord_all
  rw [List.all_eq_true] at h
  have ha := h (q1 - 1).toNat (List.mem_range.mpr (by omega))
  rw [List.all_eq_true] at ha
  have hb := ha (q2 - 1).toNat (List.mem_range.mpr (by omega))
  rw [List.all_eq_true] at hb
  have hc := hb p (List.mem_range.mpr (by omega))
  have e1 : (1 + (((q1 - 1).toNat : Nat) : Int)) = q1 := by omega
  have e2 : (1 + (((q2 - 1).toNat : Nat) : Int)) = q2 := by omega
  rw [e1, e2, Bool.or_eq_true] at hc
  rcases hc with hc | hc
  · exact absurd (of_decide_eq_true hc) (by omega)
  · simp only [ordOk, Bool.and_eq_true, decide_eq_true_eq] at hc
    exact ⟨hc.1.1.1.1, hc.1.1.1.2, hc.1.1.2, hc.1.2, hc.2⟩
end Mine
namespace Mine
theorem ints_dat {news : List (Addr × Obj)} : ∀ {vs : List Value} {ns : List Int}, IntsAre vs ns → DatAll news vs (ns.map Dat.int)
  | _, _, .nil => .nil
  | _, _, .cons n t r => .cons (.int n t) (ints_dat r)
theorem kqd_ints (o : List Int) : kqdOk 8 (Dat.list (o.map Dat.int)) = true := by
  show (o.map Dat.int).all (kqdOk 7) = true
  rw [List.all_eq_true]
  intro d hd
  obtain ⟨i, _, rfl⟩ := List.mem_map.mp hd
  rfl
section
variable {prog : Program} {w : World} {A : Around} {E : Value → Shared → Prop} {s : Shared} {h₀ : Heap} {L a b r1 r2 q1 q2 : Addr} {news : List (Addr × Obj)} {v1 v2 w1 w2 : List Value} {Q : Value → Shared → Prop}
theorem ne_rows {ka kb n1 n2 m1 m2 : Nat} {o1 o2 : List Int} (N : News h₀ L s.heap news) (ma : (a, listOf (List.toArray [Value.ref r1, .ref r2]) ka) ∈ news) (mb : (b, listOf (List.toArray [Value.ref q1, .ref q2]) kb) ∈ news)
    (e1 : (r1, listOf v1.toArray n1) ∈ news) (e2 : (r2, listOf v2.toArray n2) ∈ news) (e3 : (q1, listOf w1.toArray m1) ∈ news) (e4 : (q2, listOf w2.toArray m2) ∈ news)
    (h1 : IntsAre v1 o1) (h2 : IntsAre v2 o2) (h3 : IntsAre w1 o1) (h4 : IntsAre w2 o2) (hu : A.units + 64 < cLine)
    (h : Q (.bool false) s) : wpAny (model prog w) A (compareOp .NotEq (.ref a) (.ref b)) Q E s := by
  have hk : ∀ d ∈ [Dat.list (o1.map Dat.int), Dat.list (o2.map Dat.int)], kqdOk 8 d = true := by
    intro d hd
    rcases List.mem_cons.mp hd with rfl | hd
    · exact kqd_ints _
    · rw [List.mem_singleton.mp hd]; exact kqd_ints _
  classical
  refine kqd_ne (n₁ := news) (n₂ := news) N ma rfl rfl (.cons (.list e1 (ints_dat h1)) (.cons (.list e2 (ints_dat h2)) .nil)) (fun _ hp => hp) mb rfl rfl (.cons (.list e3 (ints_dat h3)) (.cons (.list e4 (ints_dat h4)) .nil)) (fun _ hp => hp) hk hk hu ?_
  simpa using h
end
end Mine
namespace Mine
theorem exA {h₀ h : Heap} {L a : Addr} {o : Obj} {X : List (Addr × Obj)} (_N : News h₀ L h ((a, o) :: X)) : ∃ b, b = a := ⟨_, rfl⟩
end Mine
end
-- P10
section
theorem Mine.resetP10 : True := by (w_top off; trivial)
open PySem PySem.W PyProof.Rows Builtin.Str
set_option Elab.async false
set_option maxRecDepth 100000
set_option maxHeartbeats 8000000
namespace Mine
/-! The fillings, counted over plain lists of labels. -/
noncomputable def labL (l : List Nat) : Str := ⟨(l.map (117 + ·)).toArray⟩
noncomputable def wordL (l : List Nat) : Str := ⟨(46 :: l.map (117 + ·)).toArray⟩
theorem labL_len (l : List Nat) : (labL l).length = l.length := by show (l.map (117 + ·)).toArray.size = _; simp
theorem wordL_len (l : List Nat) : (wordL l).length = l.length + 1 := by show (46 :: l.map (117 + ·)).toArray.size = _; simp
theorem pick_all : ∀ l : List Nat, (List.range l.length).filterMap (fun i => l[i]?) = l
  | [] => rfl
  | a :: r => by
    rw [List.length_cons, List.range_succ_eq_map, List.filterMap_cons_some (by rw [List.getElem?_cons_zero]), List.filterMap_map]
    refine congrArg (List.cons a) ?_
    refine Eq.trans ?_ (pick_all r)
    refine congrArg (fun f => List.filterMap f (List.range r.length)) ?_
    funext i
    exact List.getElem?_cons_succ
theorem slice1_idx {n : Nat} (h : 1 ≤ n) : strSliceIndices (some 1) none 1 n = (List.range (n - 1)).map (· + 1) := by
  k_with_none
  k_with "om" => with_reducible first | exact Mine.om109 | exact Mine.om153 (by assumption) | exact Mine.om184 | exact Mine.om197 (by assumption) | fail
  unfold strSliceIndices PySem.sliceRange
  simp only [show (1 : Int) > 0 by decide, if_true]
  have e1 : max (0 : Int) (min (if (1 : Int) < 0 then 1 + (n : Int) else 1) n) = 1 := by rw [if_neg (by decide)]; omega
  rw [e1]
  have e2 : (if (1 : Int) < (n : Int) then ((n : Int) - 1 + 1 - 1) / 1 else 0).toNat = n - 1 := by
    split
    · rw [Int.ediv_one]; omega
    · omega
  rw [e2]
  refine List.map_congr_left fun k _ => ?_
  omega
theorem slice1_eq {x : Str} (h : 1 ≤ x.length) : Txt.slice x (some 1) none = ⟨x.cps.toList.tail.toArray⟩ := by
  k_with_none
  k_with "om" => with_reducible first | exact Mine.om351 (by assumption) | fail
  have hs : x.length = x.cps.toList.length := by rw [Array.length_toList]; rfl
  unfold Txt.slice
  rw [slice1_idx h, List.length_map, List.length_range, if_neg (by simp; omega)]
  congr 2
  rw [List.filterMap_map]
  cases hl : x.cps.toList with
  | nil => rw [hl] at hs; rw [hs] at h; exact absurd h (by decide)
  | cons a r =>
    rw [hs, hl, List.length_cons, Nat.add_sub_cancel, List.tail_cons]
    refine Eq.trans ?_ (pick_all r)
    refine congrArg (fun f => List.filterMap f (List.range r.length)) ?_
    funext i
    show x.cps[i + 1]? = r[i]?
    rw [← Array.getElem?_toList, hl]
    exact List.getElem?_cons_succ
theorem slice_word (l : List Nat) (s : Nat) : Txt.slice (wordL l) (some 1) none ++ (⟨#[117 + s]⟩ : Str) = labL (l ++ [s]) := by
  k_with_none
  k_with "om" => with_reducible first | exact Mine.om500 | fail
  rw [slice1_eq (by rw [wordL_len]; omega)]
  show Str.mk ((l.map (117 + ·)).toArray ++ #[117 + s]) = Str.mk _
  congr 1
  apply Array.ext'
  simp
theorem word_app (l : List Nat) (s : Nat) : wordL l ++ (⟨#[117 + s]⟩ : Str) = wordL (l ++ [s]) := by
  show Str.mk ((46 :: l.map (117 + ·)).toArray ++ #[117 + s]) = Str.mk _
  congr 1
  apply Array.ext'
  simp
theorem count_word_sign (l : List Nat) (s : Nat) : Txt.count (wordL l) ⟨#[117 + s]⟩ = (l.count s : Nat) := by
  k_with_none
  k_with "om" => with_reducible first | exact Mine.om512 | fail
  rw [count_sign]
  show (((46 :: l.map (117 + ·)).count (117 + s) : Nat) : Int) = _
  rw [List.count_cons_of_ne (by omega)]
  congr 1
  induction l with
  | nil => rfl
  | cons a r ih =>
    rw [List.map_cons, List.count_cons, List.count_cons, ih]
    by_cases h : a = s <;> simp [h]
theorem signs_eq : signsF = (List.range 5).map fun s => (⟨#[117 + s]⟩ : Str) := by decide +kernel
theorem item_lab {l : List Nat} {i : Nat} {n : Int} (hn : n = (i : Int)) (h : i < l.length) : Txt.item (labL l) n = ⟨#[117 + l.getD i 0]⟩ := by
  k_with_none
  k_with "om" => with_reducible first | fail
  subst hn
  have hl := labL_len l
  have e : PySem.seqIndex? (i : Int) l.length = some i := by
    unfold PySem.seqIndex?
    simp only [show ¬ ((i : Int) < 0) by omega, if_false]
    rw [if_pos (by simp [h])]
    simp
  unfold Txt.item Txt.charAt
  rw [hl, e]
  show (⟨#[(((l.map (117 + ·)).toArray[i]?).getD 0)]⟩ : Str) = _
  rw [List.getElem?_toArray, List.getElem?_map, List.getD_eq_getElem?_getD, List.getElem?_eq_getElem h]
  rfl
theorem coll_one (a b : Nat) : collF ⟨#[a]⟩ ⟨#[b]⟩ = b2i (decide (b < a)) - b2i (decide (a < b)) := by
  unfold collF
  have e : ∀ x y : Nat, decide ([x] < [y]) = decide (x < y) := by
    intro x y
    rw [decide_eq_decide, List.cons_lt_cons_iff]
    simp
  show b2i (decide ([b] < [a])) - b2i (decide ([a] < [b])) = _
  rw [e, e]
theorem coll_ge (a b : Nat) (e : Bool) : decide ((if e = true then (1 : Int) else 0) ≤ collF ⟨#[117 + a]⟩ ⟨#[117 + b]⟩) = if e = true then decide (b < a) else decide (b ≤ a) := by
  rw [coll_one]
  unfold b2i
  rcases Nat.lt_trichotomy a b with h | h | h
  · cases e <;> simp [h, Nat.lt_asymm h, Nat.not_le.mpr h]
  · subst h
    cases e <;> simp
  · cases e <;> simp [h, Nat.lt_asymm h, Nat.le_of_lt h]
/-- what the cells' relation and their tabs say of the last label and the i-th -/
noncomputable def clashN (B : List (List Nat)) (T : List Nat) (l : List Nat) (k i : Nat) : Bool :=
  let e := Nat.beq (T.getD i 0) (T.getD k 0)
  ((B.getD k []).any (Nat.beq i) && (if e = true then Nat.ble (l.getD k 0 + 1) (l.getD i 0) else Nat.ble (l.getD k 0) (l.getD i 0))) ||
    ((B.getD i []).any (Nat.beq k) && (if e = true then Nat.ble (l.getD i 0 + 1) (l.getD k 0) else Nat.ble (l.getD i 0) (l.getD k 0)))
noncomputable def fitN (B : List (List Nat)) (T : List Nat) (l : List Nat) : Bool := (List.range (l.length - 1)).all fun i => !clashN B T l (l.length - 1) i
noncomputable def intsB (B : List (List Nat)) : List (List Int) := B.map fun r => r.map fun (j : Nat) => (0 : Int) + (j : Int)
noncomputable def intsT (T : List Nat) : List Int := T.map fun (j : Nat) => (j : Int)
theorem any_ints (B : List (List Nat)) (k i : Nat) {n : Int} (hn : n = (i : Int)) : ((intsB B).getD k []).any (fun x => x == n) = (B.getD k []).any (Nat.beq i) := by
  k_with_none
  k_with "om" => with_reducible first | exact Mine.om464 (by assumption) | fail
  subst hn
  have e : (intsB B).getD k [] = (B.getD k []).map fun (j : Nat) => (0 : Int) + (j : Int) := by
    unfold intsB
    rw [List.getD_eq_getElem?_getD, List.getD_eq_getElem?_getD, List.getElem?_map]
    cases B[k]? <;> rfl
  rw [e, List.any_map]
  congr 1
  funext j
  show (((0 : Int) + (j : Int)) == (i : Int)) = Nat.beq i j
  by_cases h : i = j
  · subst h
    rw [Nat.beq_refl]
    simp
  · have h1 : Nat.beq i j = false := Bool.eq_false_iff.mpr fun q => h (Nat.eq_of_beq_eq_true q)
    rw [h1]
    simp
    omega
theorem getD_ints {T : List Nat} {k : Nat} {n : Nat} (hn : n = k) : (intsT T).getD n 0 = ((T.getD k 0 : Nat) : Int) := by
  subst hn
  unfold intsT
  rw [List.getD_eq_getElem?_getD, List.getD_eq_getElem?_getD, List.getElem?_map]
  cases T[n]? <;> rfl
theorem clash_eq (B : List (List Nat)) (T : List Nat) {l : List Nat} {i : Nat} (hi : i < l.length) : clash (intsB B) (intsT T) (labL l) i = clashN B T l (l.length - 1) i := by
  k_with_none
  k_with "om" => with_reducible first | exact Mine.om196 (by assumption) | exact Mine.om295 (by assumption) | exact Mine.om320 | exact Mine.om55 | exact Mine.om415 (by assumption) | fail
  have hlen := labL_len l
  have hk : l.length - 1 < l.length := by omega
  unfold clash
  have e0 : (((labL l).length : Int) - 1) = ((l.length - 1 : Nat) : Int) := by rw [hlen]; omega
  rw [e0, hlen]
  rw [any_ints B (l.length - 1) i rfl, any_ints B i (l.length - 1) rfl, item_lab rfl hi, item_lab rfl hk]
  rw [getD_ints (k := i) (by omega), getD_ints (k := l.length - 1) (by omega)]
  have e1 : (if ((T.getD i 0 : Nat) : Int) = ((T.getD (l.length - 1) 0 : Nat) : Int) then (1 : Int) else 0) = if Nat.beq (T.getD i 0) (T.getD (l.length - 1) 0) = true then 1 else 0 := by
    by_cases h : T.getD i 0 = T.getD (l.length - 1) 0
    · rw [h, if_pos rfl, if_pos (Nat.beq_refl _)]
    · rw [if_neg (by omega), if_neg (fun q => h (Nat.eq_of_beq_eq_true q))]
  rw [e1]
  dsimp only
  rw [coll_ge, coll_ge]
  unfold clashN
  dsimp only
  have e2 : ∀ a b : Nat, decide (a < b) = Nat.ble (a + 1) b := by
    intro a b
    by_cases h : a < b
    · rw [decide_eq_true h, Nat.ble_eq_true_of_le h]
    · rw [decide_eq_false h]
      exact (Bool.eq_false_iff.mpr fun q => h (Nat.le_of_ble_eq_true q)).symm
  have e3 : ∀ a b : Nat, decide (a ≤ b) = Nat.ble a b := by
    intro a b
    by_cases h : a ≤ b
    · rw [decide_eq_true h, Nat.ble_eq_true_of_le h]
    · rw [decide_eq_false h]
      exact (Bool.eq_false_iff.mpr fun q => h (Nat.le_of_ble_eq_true q)).symm
  rw [e2, e2, e3, e3]
theorem fits_eq (B : List (List Nat)) (T : List Nat) (l : List Nat) : fitsF (intsB B) (intsT T) (labL l) = fitN B T l := by
  k_with_none
  k_with "om" => with_reducible first | exact Mine.om382 (by assumption) | fail
  unfold fitsF fitN
  rw [labL_len]
  rw [Bool.eq_iff_iff, List.all_eq_true, List.all_eq_true]
  constructor
  · intro h i hi
    have := h i hi
    rwa [clash_eq B T (by have := List.mem_range.mp hi; omega)] at this
  · intro h i hi
    have := h i hi
    rwa [clash_eq B T (by have := List.mem_range.mp hi; omega)]
noncomputable def folN (B : List (List Nat)) (T Z : List Nat) (l : List Nat) : List (List Nat) :=
  (((List.range 5).zip Z).filter fun p => Nat.ble (l.count p.1 + 1) p.2 && fitN B T (l ++ [p.1])).map fun p => l ++ [p.1]
theorem follow_eq (B : List (List Nat)) (T Z l : List Nat) : followF (intsB B) (intsT T) (intsT Z) (wordL l) = (folN B T Z l).map wordL := by
  k_with_none
  k_with "om" => with_reducible first | exact Mine.om492 (by assumption) | fail
  unfold followF folN intsT
  rw [signs_eq, List.zip_map, List.filter_map, List.map_map, List.map_map]
  have e : ∀ p : Nat × Nat, (Prod.map (fun s => (⟨#[117 + s]⟩ : Str)) (fun (j : Nat) => (j : Int)) p) = ((⟨#[117 + p.1]⟩ : Str), (p.2 : Int)) := fun _ => rfl
  refine Eq.trans (List.map_congr_left (g := wordL ∘ fun p : Nat × Nat => l ++ [p.1]) fun p _ => word_app l p.1) ?_
  refine congrArg (List.map _) (List.filter_congr fun p _ => ?_)
  show (decide (Txt.count (wordL l) ⟨#[117 + p.1]⟩ < (p.2 : Int)) && fitsF (intsB B) (intsT T) (Txt.slice (wordL l) (some 1) none ++ ⟨#[117 + p.1]⟩)) = _
  rw [count_word_sign, slice_word, fits_eq]
  congr 1
  by_cases h : l.count p.1 < p.2
  · rw [Nat.ble_eq_true_of_le h]; exact decide_eq_true (by omega)
  · rw [Bool.eq_false_iff.mpr fun q => h (Nat.le_of_ble_eq_true q)]; exact decide_eq_false (by omega)
/-- one level after the other -/
noncomputable def levN (B : List (List Nat)) (T Z : List Nat) : Nat → List (List Nat)
  | 0 => [[]]
  | n + 1 => (levN B T Z n).flatMap (folN B T Z)
theorem fol_len {B : List (List Nat)} {T Z l x : List Nat} (h : x ∈ folN B T Z l) : x.length = l.length + 1 := by
  obtain ⟨p, _, rfl⟩ := List.mem_map.mp h
  simp
theorem lev_len {B : List (List Nat)} {T Z : List Nat} : ∀ {n : Nat} {x : List Nat}, x ∈ levN B T Z n → x.length = n
  | 0, x, h => by rw [List.mem_singleton.mp h]; rfl
  | n + 1, x, h => by
    obtain ⟨l, hl, hx⟩ := List.mem_flatMap.mp h
    rw [fol_len hx, lev_len hl]
theorem go_more {B : List (List Nat)} {T Z : List Nat} (hT : T.length = 5) : ∀ (q rest : List (List Nat)) (n : Nat) (whole : List Str), (∀ x ∈ q, x.length < 5) →
    fillGo (intsB B) (intsT T) (intsT Z) (n + q.length) ((q ++ rest).map wordL) whole = fillGo (intsB B) (intsT T) (intsT Z) n ((rest ++ q.flatMap (folN B T Z)).map wordL) whole
  | [], rest, n, whole, _ => by simp
  | x :: q, rest, n, whole, h => by
    k_with_none
    k_with "om" => with_reducible first | fail
    have hx := h x (.head _)
    have hlt : ¬ (intsT T).length < (wordL x).length := by rw [wordL_len, intsT, List.length_map, hT]; omega
    rw [List.length_cons, ← Nat.add_assoc, List.cons_append, List.map_cons, fillGo, if_neg hlt, follow_eq, ← List.map_append, List.append_assoc]
    rw [go_more hT q (rest ++ folN B T Z x) n whole fun y hy => h y (.tail _ hy)]
    rw [List.flatMap_cons, List.append_assoc]
theorem go_end {B : List (List Nat)} {T Z : List Nat} (hT : T.length = 5) : ∀ (q : List (List Nat)) (n : Nat) (whole : List Str), (∀ x ∈ q, x.length = 5) →
    fillGo (intsB B) (intsT T) (intsT Z) (n + q.length + 1) (q.map wordL) whole = if fallsF (whole ++ q.map wordL) = [] then ((whole ++ q.map wordL).length : Int) else -1
  | [], n, whole, _ => by
    k_with_none
    k_with "om" => with_reducible first | exact Mine.om485 (by assumption) | fail
    rw [List.map_nil, List.append_nil]
    rfl
  | x :: q, n, whole, h => by
    have hx := h x (.head _)
    have hlt : (intsT T).length < (wordL x).length := by rw [wordL_len, intsT, List.length_map, hT]; omega
    rw [List.length_cons, ← Nat.add_assoc, List.map_cons, fillGo, if_pos hlt]
    rw [go_end hT q n (whole ++ [wordL x]) fun y hy => h y (.tail _ hy)]
    rw [List.append_assoc]
    rfl
noncomputable def resN (B : List (List Nat)) (T Z : List Nat) : Int :=
  let a := levN B T Z 5
  if fallsF (a.map wordL) = [] then (a.length : Int) else -1
theorem dot_eq : Str.ofString "." = wordL [] := by decide +kernel
theorem fill_eq {B : List (List Nat)} {T Z : List Nat} (hT : T.length = 5) (hs : 1 + (levN B T Z 1).length + (levN B T Z 2).length + (levN B T Z 3).length + (levN B T Z 4).length + (levN B T Z 5).length + 1 ≤ 999) :
    fillF (intsB B) (intsT T) (intsT Z) = resN B T Z := by
  k_with_none
  k_with "om" => with_reducible first | exact Mine.om125 (by assumption) | fail
  unfold fillF
  rw [dot_eq]
  have step : ∀ (k n : Nat), k < 5 → fillGo (intsB B) (intsT T) (intsT Z) (n + (levN B T Z k).length) ((levN B T Z k).map wordL) [] = fillGo (intsB B) (intsT T) (intsT Z) n ((levN B T Z (k + 1)).map wordL) [] := by
    intro k n hk
    have := go_more (B := B) (T := T) (Z := Z) hT (levN B T Z k) [] n [] fun x hx => by rw [lev_len hx]; exact hk
    rw [List.append_nil, List.nil_append] at this
    exact this
  obtain ⟨m, hm⟩ : ∃ m, 999 = ((((((m + (levN B T Z 5).length + 1) + (levN B T Z 4).length) + (levN B T Z 3).length) + (levN B T Z 2).length) + (levN B T Z 1).length) + (levN B T Z 0).length) := ⟨998 - (1 + (levN B T Z 1).length + (levN B T Z 2).length + (levN B T Z 3).length + (levN B T Z 4).length + (levN B T Z 5).length), by show _ = _ + 1; omega⟩
  rw [hm]
  show fillGo _ _ _ _ ((levN B T Z 0).map wordL) [] = _
  rw [step 0 _ (by decide), step 1 _ (by decide), step 2 _ (by decide), step 3 _ (by decide), step 4 _ (by decide)]
  rw [go_end hT _ _ _ fun x hx => lev_len hx]
  rw [List.nil_append, List.length_map]
  rfl
end Mine
end
-- P11
section
theorem Mine.resetP11 : True := by (w_top off; trivial)
open PySem PySem.W PyProof.Rows
set_option Elab.async false
set_option maxRecDepth 100000
set_option maxHeartbeats 8000000
namespace Mine
/-! The finite check: seven shapes, five turns, thirteen orders of the sizes. Printed by gen_p11.py. -/
noncomputable def ordsN : List (List Nat) := [[1,1,1,1,1],[1,1,1,2],[1,1,2,1],[1,1,3],[1,2,1,1],[1,2,2],[1,3,1],[2,1,1,1],[2,1,2],[2,2,1],[2,3],[3,1,1],[3,2]]
noncomputable def shapesL : List (List Int) := [[1,1,1,1,1],[2,1,1,1],[2,2,1],[3,1,1],[3,2],[4,1],[5]]
noncomputable def kTab : List (List Int) := [[1,0,0,0,0,0,0,0,0,0,0,0,0],[4,1,1,0,1,0,0,1,0,0,0,0,0],[5,2,2,0,2,1,0,2,1,1,0,0,0],[6,3,3,1,3,1,1,3,1,1,0,1,0],[5,3,3,1,3,2,1,3,2,2,1,1,1],[4,3,3,2,3,2,2,3,2,2,1,2,1],[1,1,1,1,1,1,1,1,1,1,1,1,1]]
noncomputable def mTab : List (List (List Bool)) := [[[false,false,false,false,false],[true,false,false,false,false],[true,true,false,false,false],[true,true,true,false,false],[true,true,true,true,false]],[[false,false,false,false,false],[true,false,false,false,false],[true,false,false,false,false],[true,false,true,false,false],[true,false,true,true,false]],[[false,false,false,false,false],[true,false,false,false,false],[true,false,false,false,false],[true,true,true,false,false],[true,false,true,false,false]],[[false,false,false,false,false],[true,false,false,false,false],[true,true,false,false,false],[true,false,false,false,false],[true,false,false,true,false]],[[false,false,false,false,false],[true,false,false,false,false],[true,true,false,false,false],[true,false,false,false,false],[true,true,false,true,false]],[[false,false,false,false,false],[true,false,false,false,false],[true,true,false,false,false],[true,true,true,false,false],[true,false,false,false,false]],[[false,false,false,false,false],[true,false,false,false,false],[true,true,false,false,false],[true,true,true,false,false],[true,true,true,true,false]]]
noncomputable def tTab : List (List Int) := [[0,1,2,3,4],[0,0,1,2,3],[0,0,1,1,2],[0,0,0,1,2],[0,0,0,1,1],[0,0,0,0,1],[0,0,0,0,0]]
noncomputable def posB : List (List (List (List Nat))) := [[[[],[0],[0,1],[0,1,2],[0,1,2,3]],[[4],[0,4],[0,1,4],[0,1,2,4],[]],[[3,4],[0,3,4],[0,1,3,4],[],[3]],[[2,3,4],[0,2,3,4],[],[2],[2,3]],[[1,2,3,4],[],[1],[1,2],[1,2,3]]],[[[],[0],[0],[0,2],[0,2,3]],[[4],[4],[1,4],[1,2,4],[]],[[3],[0,3],[0,1,3],[],[3]],[[2,4],[0,2,4],[],[2],[2]],[[1,3,4],[],[1],[1],[1,3]]],[[[],[0],[0],[0,1,2],[0,2]],[[4],[4],[0,1,4],[1,4],[]],[[3],[0,3,4],[0,3],[],[3]],[[2,3,4],[2,4],[],[2],[2]],[[1,3],[],[1],[1],[1,2,3]]],[[[],[0],[0,1],[0],[0,3]],[[4],[0,4],[4],[2,4],[]],[[3,4],[3],[1,3],[],[3]],[[2],[0,2],[],[2],[2,3]],[[1,4],[],[1],[1,2],[1]]],[[[],[0],[0,1],[0],[0,1,3]],[[4],[0,4],[4],[0,2,4],[]],[[3,4],[3],[1,3,4],[],[3]],[[2],[0,2,3],[],[2],[2,3]],[[1,2,4],[],[1],[1,2],[1]]],[[[],[0],[0,1],[0,1,2],[0]],[[4],[0,4],[0,1,4],[4],[]],[[3,4],[0,3,4],[3],[],[3]],[[2,3,4],[2],[],[2],[2,3]],[[1],[],[1],[1,2],[1,2,3]]],[[[],[0],[0,1],[0,1,2],[0,1,2,3]],[[4],[0,4],[0,1,4],[0,1,2,4],[]],[[3,4],[0,3,4],[0,1,3,4],[],[3]],[[2,3,4],[0,2,3,4],[],[2],[2,3]],[[1,2,3,4],[],[1],[1,2],[1,2,3]]]]
noncomputable def posT : List (List (List Nat)) := [[[0,1,2,3,4],[1,2,3,4,0],[2,3,4,0,1],[3,4,0,1,2],[4,0,1,2,3]],[[0,0,1,2,3],[0,1,2,3,0],[1,2,3,0,0],[2,3,0,0,1],[3,0,0,1,2]],[[0,0,1,1,2],[0,1,1,2,0],[1,1,2,0,0],[1,2,0,0,1],[2,0,0,1,1]],[[0,0,0,1,2],[0,0,1,2,0],[0,1,2,0,0],[1,2,0,0,0],[2,0,0,0,1]],[[0,0,0,1,1],[0,0,1,1,0],[0,1,1,0,0],[1,1,0,0,0],[1,0,0,0,1]],[[0,0,0,0,1],[0,0,0,1,0],[0,0,1,0,0],[0,1,0,0,0],[1,0,0,0,0]],[[0,0,0,0,0],[0,0,0,0,0],[0,0,0,0,0],[0,0,0,0,0],[0,0,0,0,0]]]
noncomputable def resOk (B : List (List Nat)) (T Z : List Nat) (k : Int) : Bool :=
  decide (1 + (levN B T Z 1).length + (levN B T Z 2).length + (levN B T Z 3).length + (levN B T Z 4).length + (levN B T Z 5).length + 1 ≤ 999) && decide (T.length = 5) && decide (resN B T Z = k)
noncomputable def fillsOk (B : List (List Nat)) (T : List Nat) (K : List Int) : Bool := (ordsN.zip K).all fun p => resOk B T p.1 p.2
theorem fill_0_0 : fillsOk [[],[0],[0,1],[0,1,2],[0,1,2,3]] [0,1,2,3,4] [1,0,0,0,0,0,0,0,0,0,0,0,0] = true := by decide +kernel
theorem fill_0_1 : fillsOk [[4],[0,4],[0,1,4],[0,1,2,4],[]] [1,2,3,4,0] [1,0,0,0,0,0,0,0,0,0,0,0,0] = true := by decide +kernel
theorem fill_0_2 : fillsOk [[3,4],[0,3,4],[0,1,3,4],[],[3]] [2,3,4,0,1] [1,0,0,0,0,0,0,0,0,0,0,0,0] = true := by decide +kernel
theorem fill_0_3 : fillsOk [[2,3,4],[0,2,3,4],[],[2],[2,3]] [3,4,0,1,2] [1,0,0,0,0,0,0,0,0,0,0,0,0] = true := by decide +kernel
theorem fill_0_4 : fillsOk [[1,2,3,4],[],[1],[1,2],[1,2,3]] [4,0,1,2,3] [1,0,0,0,0,0,0,0,0,0,0,0,0] = true := by decide +kernel
theorem fill_1_0 : fillsOk [[],[0],[0],[0,2],[0,2,3]] [0,0,1,2,3] [4,1,1,0,1,0,0,1,0,0,0,0,0] = true := by decide +kernel
theorem fill_1_1 : fillsOk [[4],[4],[1,4],[1,2,4],[]] [0,1,2,3,0] [4,1,1,0,1,0,0,1,0,0,0,0,0] = true := by decide +kernel
theorem fill_1_2 : fillsOk [[3],[0,3],[0,1,3],[],[3]] [1,2,3,0,0] [4,1,1,0,1,0,0,1,0,0,0,0,0] = true := by decide +kernel
theorem fill_1_3 : fillsOk [[2,4],[0,2,4],[],[2],[2]] [2,3,0,0,1] [4,1,1,0,1,0,0,1,0,0,0,0,0] = true := by decide +kernel
theorem fill_1_4 : fillsOk [[1,3,4],[],[1],[1],[1,3]] [3,0,0,1,2] [4,1,1,0,1,0,0,1,0,0,0,0,0] = true := by decide +kernel
theorem fill_2_0 : fillsOk [[],[0],[0],[0,1,2],[0,2]] [0,0,1,1,2] [5,2,2,0,2,1,0,2,1,1,0,0,0] = true := by decide +kernel
theorem fill_2_1 : fillsOk [[4],[4],[0,1,4],[1,4],[]] [0,1,1,2,0] [5,2,2,0,2,1,0,2,1,1,0,0,0] = true := by decide +kernel
theorem fill_2_2 : fillsOk [[3],[0,3,4],[0,3],[],[3]] [1,1,2,0,0] [5,2,2,0,2,1,0,2,1,1,0,0,0] = true := by decide +kernel
theorem fill_2_3 : fillsOk [[2,3,4],[2,4],[],[2],[2]] [1,2,0,0,1] [5,2,2,0,2,1,0,2,1,1,0,0,0] = true := by decide +kernel
theorem fill_2_4 : fillsOk [[1,3],[],[1],[1],[1,2,3]] [2,0,0,1,1] [5,2,2,0,2,1,0,2,1,1,0,0,0] = true := by decide +kernel
theorem fill_3_0 : fillsOk [[],[0],[0,1],[0],[0,3]] [0,0,0,1,2] [6,3,3,1,3,1,1,3,1,1,0,1,0] = true := by decide +kernel
theorem fill_3_1 : fillsOk [[4],[0,4],[4],[2,4],[]] [0,0,1,2,0] [6,3,3,1,3,1,1,3,1,1,0,1,0] = true := by decide +kernel
theorem fill_3_2 : fillsOk [[3,4],[3],[1,3],[],[3]] [0,1,2,0,0] [6,3,3,1,3,1,1,3,1,1,0,1,0] = true := by decide +kernel
theorem fill_3_3 : fillsOk [[2],[0,2],[],[2],[2,3]] [1,2,0,0,0] [6,3,3,1,3,1,1,3,1,1,0,1,0] = true := by decide +kernel
theorem fill_3_4 : fillsOk [[1,4],[],[1],[1,2],[1]] [2,0,0,0,1] [6,3,3,1,3,1,1,3,1,1,0,1,0] = true := by decide +kernel
theorem fill_4_0 : fillsOk [[],[0],[0,1],[0],[0,1,3]] [0,0,0,1,1] [5,3,3,1,3,2,1,3,2,2,1,1,1] = true := by decide +kernel
theorem fill_4_1 : fillsOk [[4],[0,4],[4],[0,2,4],[]] [0,0,1,1,0] [5,3,3,1,3,2,1,3,2,2,1,1,1] = true := by decide +kernel
theorem fill_4_2 : fillsOk [[3,4],[3],[1,3,4],[],[3]] [0,1,1,0,0] [5,3,3,1,3,2,1,3,2,2,1,1,1] = true := by decide +kernel
theorem fill_4_3 : fillsOk [[2],[0,2,3],[],[2],[2,3]] [1,1,0,0,0] [5,3,3,1,3,2,1,3,2,2,1,1,1] = true := by decide +kernel
theorem fill_4_4 : fillsOk [[1,2,4],[],[1],[1,2],[1]] [1,0,0,0,1] [5,3,3,1,3,2,1,3,2,2,1,1,1] = true := by decide +kernel
theorem fill_5_0 : fillsOk [[],[0],[0,1],[0,1,2],[0]] [0,0,0,0,1] [4,3,3,2,3,2,2,3,2,2,1,2,1] = true := by decide +kernel
theorem fill_5_1 : fillsOk [[4],[0,4],[0,1,4],[4],[]] [0,0,0,1,0] [4,3,3,2,3,2,2,3,2,2,1,2,1] = true := by decide +kernel
theorem fill_5_2 : fillsOk [[3,4],[0,3,4],[3],[],[3]] [0,0,1,0,0] [4,3,3,2,3,2,2,3,2,2,1,2,1] = true := by decide +kernel
theorem fill_5_3 : fillsOk [[2,3,4],[2],[],[2],[2,3]] [0,1,0,0,0] [4,3,3,2,3,2,2,3,2,2,1,2,1] = true := by decide +kernel
theorem fill_5_4 : fillsOk [[1],[],[1],[1,2],[1,2,3]] [1,0,0,0,0] [4,3,3,2,3,2,2,3,2,2,1,2,1] = true := by decide +kernel
theorem fill_6_0 : fillsOk [[],[0],[0,1],[0,1,2],[0,1,2,3]] [0,0,0,0,0] [1,1,1,1,1,1,1,1,1,1,1,1,1] = true := by decide +kernel
theorem fill_6_1 : fillsOk [[4],[0,4],[0,1,4],[0,1,2,4],[]] [0,0,0,0,0] [1,1,1,1,1,1,1,1,1,1,1,1,1] = true := by decide +kernel
theorem fill_6_2 : fillsOk [[3,4],[0,3,4],[0,1,3,4],[],[3]] [0,0,0,0,0] [1,1,1,1,1,1,1,1,1,1,1,1,1] = true := by decide +kernel
theorem fill_6_3 : fillsOk [[2,3,4],[0,2,3,4],[],[2],[2,3]] [0,0,0,0,0] [1,1,1,1,1,1,1,1,1,1,1,1,1] = true := by decide +kernel
theorem fill_6_4 : fillsOk [[1,2,3,4],[],[1],[1,2],[1,2,3]] [0,0,0,0,0] [1,1,1,1,1,1,1,1,1,1,1,1,1] = true := by decide +kernel
theorem fills_st : ∀ (s t : Nat), s < 7 → t < 5 → fillsOk ((posB.getD s []).getD t []) ((posT.getD s []).getD t []) (kTab.getD s []) = true
  | 0, 0, _, _ => fill_0_0
  | 0, 1, _, _ => fill_0_1
  | 0, 2, _, _ => fill_0_2
  | 0, 3, _, _ => fill_0_3
  | 0, 4, _, _ => fill_0_4
  | 1, 0, _, _ => fill_1_0
  | 1, 1, _, _ => fill_1_1
  | 1, 2, _, _ => fill_1_2
  | 1, 3, _, _ => fill_1_3
  | 1, 4, _, _ => fill_1_4
  | 2, 0, _, _ => fill_2_0
  | 2, 1, _, _ => fill_2_1
  | 2, 2, _, _ => fill_2_2
  | 2, 3, _, _ => fill_2_3
  | 2, 4, _, _ => fill_2_4
  | 3, 0, _, _ => fill_3_0
  | 3, 1, _, _ => fill_3_1
  | 3, 2, _, _ => fill_3_2
  | 3, 3, _, _ => fill_3_3
  | 3, 4, _, _ => fill_3_4
  | 4, 0, _, _ => fill_4_0
  | 4, 1, _, _ => fill_4_1
  | 4, 2, _, _ => fill_4_2
  | 4, 3, _, _ => fill_4_3
  | 4, 4, _, _ => fill_4_4
  | 5, 0, _, _ => fill_5_0
  | 5, 1, _, _ => fill_5_1
  | 5, 2, _, _ => fill_5_2
  | 5, 3, _, _ => fill_5_3
  | 5, 4, _, _ => fill_5_4
  | 6, 0, _, _ => fill_6_0
  | 6, 1, _, _ => fill_6_1
  | 6, 2, _, _ => fill_6_2
  | 6, 3, _, _ => fill_6_3
  | 6, 4, _, _ => fill_6_4
  | s + 7, t, h, _ => absurd h (by omega)
  | s, t + 5, _, h => absurd h (by omega)
noncomputable def rotL {α : Type} (t : Nat) (l : List α) : List α := l.drop t ++ l.take t
theorem rotL_map {α β : Type} (f : α → β) (t : Nat) (l : List α) : (rotL t l).map f = rotL t (l.map f) := by
  unfold rotL
  rw [List.map_append, List.map_drop, List.map_take]
theorem rot_all : (List.range 7).all (fun s => (List.range 5).all fun t => decide (((rotL t (mTab.getD s [])).map fun r => rowN (rotL t r) 5) = intsB ((posB.getD s []).getD t [])) && decide (rotL t (tTab.getD s []) = intsT ((posT.getD s []).getD t []))) = true := by decide +kernel
noncomputable def matF (ws : List Str) : List (List Bool) := ws.map fun o => ws.map fun l => lessF l o
theorem mat_all : (List.range 5).all (fun a => (List.range 5).all fun b => (decide (b > a)) || (List.range 2).all fun c => (List.range 7).any fun s =>
    decide (cutF (1 + (a : Int)) (1 + (b : Int)) 5 = shapesL.getD s []) && decide (matF (wordsF (stepF (c : Int)) (cutF (1 + (a : Int)) (1 + (b : Int)) 5) 5) = mTab.getD s []) && decide (((wordsF (stepF (c : Int)) (cutF (1 + (a : Int)) (1 + (b : Int)) 5) 5).map fun x => (wsF x).nt) = tTab.getD s [])) = true := by decide +kernel
noncomputable def kFind (s : Nat) (o : List Int) : Option (List Nat × Int) := (ordsN.zip (kTab.getD s [])).find? fun p => intsT p.1 == o
theorem ways_all : (List.range 7).all (fun s => (List.range 3).all fun a => (List.range 3).all fun b =>
    decide ((kFind s (cutF (1 + (a : Int)) (1 + (b : Int)) 5)).map (·.2) = some (waysF (cutF (1 + (a : Int)) (1 + (b : Int)) 5).length (shapesL.getD s []) (cutF (1 + (a : Int)) (1 + (b : Int)) 5)))) = true := by decide +kernel
theorem kords_all : (List.range 7).all (fun s => (List.range 3).all fun a => (List.range 3).all fun b => (List.range 5).all fun p => (decide ((cutF (1 + (a : Int)) (1 + (b : Int)) 5).length ≤ p)) ||
    (decide ((kFind s (ordF (1 + (a : Int)) (1 + (b : Int)) p)).map (·.2) = (kFind s (cutF (1 + (a : Int)) (1 + (b : Int)) 5)).map (·.2)) && decide ((kFind s (ordF (1 + (a : Int)) (1 + (b : Int)) p).reverse).map (·.2) = (kFind s (cutF (1 + (a : Int)) (1 + (b : Int)) 5)).map (·.2)))) = true := by decide +kernel
theorem kpos_all : kTab.all (fun l => l.all fun k => decide (0 ≤ k)) = true := by decide +kernel

end Mine
end
-- P12
section
theorem Mine.resetP12 : True := by (w_top off; trivial)
open PySem PySem.W PyProof.Rows
set_option Elab.async false
set_option maxRecDepth 100000
set_option maxHeartbeats 8000000
namespace Mine
/-- the cells' relation, as the law's below -/
noncomputable def belowF (ws : List Str) : List (List Int) := (ws.map fun o => ws.map fun l => lessF l o).map fun bs => rowN bs 5
noncomputable def tabsF (ws : List Str) : List Int := ws.map fun x => (wsF x).nt
theorem mat_rot (t : Nat) (ws : List Str) : (rotL t ws).map (fun o => (rotL t ws).map fun l => lessF l o) = (rotL t (matF ws)).map fun r => rotL t r := by
  have e : ∀ o, (rotL t ws).map (fun l => lessF l o) = rotL t (ws.map fun l => lessF l o) := fun o => rotL_map _ t ws
  simp only [e]
  rw [rotL_map, rotL_map]
  unfold matF
  rw [List.map_map]
  rfl
theorem fill_look {s t : Nat} {o : List Int} {k : Int} (hs : s < 7) (ht : t < 5) (hk : (kFind s o).map (·.2) = some k) : fillF (intsB ((posB.getD s []).getD t [])) (intsT ((posT.getD s []).getD t [])) o = k := by
  have h := fills_st s t hs ht
  unfold fillsOk at h
  rw [List.all_eq_true] at h
  unfold kFind at hk
  cases hf : (ordsN.zip (kTab.getD s [])).find? (fun p => intsT p.1 == o) with
  | none => rw [hf] at hk; cases hk
  | some p =>
    rw [hf] at hk
    have e1 : p.2 = k := Option.some.inj hk
    have e2 : intsT p.1 = o := by simpa using List.find?_some hf
    have h2 := h p (List.mem_of_find?_eq_some hf)
    unfold resOk at h2
    simp only [Bool.and_eq_true, decide_eq_true_eq] at h2
    rw [← e2, fill_eq h2.1.2 h2.1.1, h2.2, e1]
theorem k_pos {s : Nat} {o : List Int} {k : Int} (hk : (kFind s o).map (·.2) = some k) : 0 ≤ k := by
  unfold kFind at hk
  cases hf : (ordsN.zip (kTab.getD s [])).find? (fun p => intsT p.1 == o) with
  | none => rw [hf] at hk; cases hk
  | some p =>
    rw [hf] at hk
    have e1 : p.2 = k := Option.some.inj hk
    have hm := List.mem_of_find?_eq_some hf
    have h2 : p.2 ∈ kTab.getD s [] := (List.of_mem_zip hm).2
    have h := kpos_all
    rw [List.all_eq_true] at h
    rcases Nat.lt_or_ge s kTab.length with hs | hs
    · have h3 := h (kTab.getD s []) (by rw [List.getD_eq_getElem?_getD, List.getElem?_eq_getElem hs]; exact List.getElem_mem hs)
      rw [List.all_eq_true] at h3
      rw [← e1]
      exact of_decide_eq_true (h3 _ h2)
    · rw [List.getD_eq_getElem?_getD, List.getElem?_eq_none hs] at h2
      cases h2
/-- either order of the sizes has as many fillings as the shape has ways -/
theorem fin_main {fi se q3 tn q1 q2 : Int} {p : Nat} (h1 : 1 ≤ fi) (h2 : fi ≤ 5) (h3 : 1 ≤ se) (h4 : se ≤ fi) (h5 : 0 ≤ q3) (h6 : q3 < 2) (h7 : 0 ≤ tn) (h8 : tn < 5) (h9 : 1 ≤ q1) (g1 : q1 ≤ 3) (g2 : 1 ≤ q2) (g3 : q2 ≤ 3) (g4 : p < (cutF q1 q2 5).length) (g5 : (cutF q1 q2 5).length ≤ 5)
    {ws : List Str} (hws : (wordsF (stepF q3) (cutF fi se 5) 5).drop tn.toNat ++ (wordsF (stepF q3) (cutF fi se 5) 5).take tn.toNat = ws) :
    fillF (belowF ws) (tabsF ws) (ordF q1 q2 p) = waysF (cutF q1 q2 5).length (cutF fi se 5) (cutF q1 q2 5) ∧ fillF (belowF ws) (tabsF ws) (ordF q1 q2 p).reverse = waysF (cutF q1 q2 5).length (cutF fi se 5) (cutF q1 q2 5) ∧ 0 ≤ waysF (cutF q1 q2 5).length (cutF fi se 5) (cutF q1 q2 5) := by
  k_with_none
  k_with "om" => with_reducible first | exact Mine.om3 (by assumption) | exact Mine.om23 (by assumption) | exact Mine.om84 (by assumption) | exact Mine.om310 (by assumption) | exact Mine.om67 (by assumption) (by assumption) | exact Mine.om41 (by assumption) | exact Mine.om144 (by assumption) | exact Mine.om49 (by assumption) (by assumption) | fail
  have m := mat_all
  rw [List.all_eq_true] at m
  have ma := m (fi - 1).toNat (List.mem_range.mpr (by omega))
  rw [List.all_eq_true] at ma
  have mb := ma (se - 1).toNat (List.mem_range.mpr (by omega))
  rw [Bool.or_eq_true] at mb
  rcases mb with mb | mb
  · exact absurd (of_decide_eq_true mb) (by omega)
  rw [List.all_eq_true] at mb
  have mc := mb q3.toNat (List.mem_range.mpr (by omega))
  rw [List.any_eq_true] at mc
  obtain ⟨s, hs, mc⟩ := mc
  have hs := List.mem_range.mp hs
  have e1 : (1 + (((fi - 1).toNat : Nat) : Int)) = fi := by omega
  have e2 : (1 + (((se - 1).toNat : Nat) : Int)) = se := by omega
  have e3 : ((q3.toNat : Nat) : Int) = q3 := by omega
  rw [e1, e2, e3] at mc
  simp only [Bool.and_eq_true, decide_eq_true_eq] at mc
  obtain ⟨⟨m1, m2⟩, m3⟩ := mc
  rw [m1] at m2 m3 hws
  rw [m1]
  have ht : tn.toNat < 5 := by omega
  have r := rot_all
  rw [List.all_eq_true] at r
  have ra := r s (List.mem_range.mpr hs)
  rw [List.all_eq_true] at ra
  have rb := ra tn.toNat (List.mem_range.mpr ht)
  simp only [Bool.and_eq_true, decide_eq_true_eq] at rb
  have hws' : rotL tn.toNat (wordsF (stepF q3) (shapesL.getD s []) 5) = ws := hws
  have eB : belowF ws = intsB ((posB.getD s []).getD tn.toNat []) := by
    rw [← rb.1, ← m2, ← hws']
    unfold belowF
    rw [mat_rot, List.map_map]
    rfl
  have eT : tabsF ws = intsT ((posT.getD s []).getD tn.toNat []) := by
    rw [← rb.2, ← m3, ← hws']
    unfold tabsF
    rw [rotL_map]
  have w := ways_all
  rw [List.all_eq_true] at w
  have wa := w s (List.mem_range.mpr hs)
  rw [List.all_eq_true] at wa
  have wb := wa (q1 - 1).toNat (List.mem_range.mpr (by omega))
  rw [List.all_eq_true] at wb
  have wc := wb (q2 - 1).toNat (List.mem_range.mpr (by omega))
  have e4 : (1 + (((q1 - 1).toNat : Nat) : Int)) = q1 := by omega
  have e5 : (1 + (((q2 - 1).toNat : Nat) : Int)) = q2 := by omega
  rw [e4, e5] at wc
  have wc := of_decide_eq_true wc
  have o := kords_all
  rw [List.all_eq_true] at o
  have oa := o s (List.mem_range.mpr hs)
  rw [List.all_eq_true] at oa
  have ob := oa (q1 - 1).toNat (List.mem_range.mpr (by omega))
  rw [List.all_eq_true] at ob
  have oc := ob (q2 - 1).toNat (List.mem_range.mpr (by omega))
  rw [List.all_eq_true] at oc
  have od := oc p (List.mem_range.mpr (by omega))
  rw [e4, e5, Bool.or_eq_true] at od
  rcases od with od | od
  · exact absurd (of_decide_eq_true od) (by omega)
  simp only [Bool.and_eq_true, decide_eq_true_eq] at od
  rw [eB, eT]
  exact ⟨fill_look hs ht (od.1.trans wc), fill_look hs ht (od.2.trans wc), k_pos wc⟩
end Mine
end
-- P13
section
theorem Mine.resetP13 : True := by (w_top off; trivial)
open PySem PySem.W PyProof.Rows PyProof.Rows.LCg
set_option Elab.async false
set_option maxRecDepth 100000
set_option maxHeartbeats 8000000
namespace Mine
theorem news_fill {h₀ h : Heap} {L : Addr} {c d i a1 a2 a3 a4 a5 a6 a7 lf dl pb : Addr × Obj} {X : List (Addr × Obj)} (N : News h₀ L h (c :: d :: i :: a1 :: a2 :: a3 :: a4 :: a5 :: a6 :: a7 :: lf :: dl :: pb :: X)) :
    News h₀ L h (c :: d :: ([i] ++ (pb :: lf :: dl :: (a1 :: a2 :: a3 :: a4 :: a5 :: a6 :: a7 :: X)))) :=
  allC (N _ (.head _)) (allC (N _ (.tail _ (.head _))) (allC (N _ (.tail _ (.tail _ (.head _)))) (allC (N _ (.tail _ (.tail _ (.tail _ (.tail _ (.tail _ (.tail _ (.tail _ (.tail _ (.tail _ (.tail _ (.tail _ (.tail _ (.head _)))))))))))))) (allC (N _ (.tail _ (.tail _ (.tail _ (.tail _ (.tail _ (.tail _ (.tail _ (.tail _ (.tail _ (.tail _ (.head _)))))))))))) (allC (N _ (.tail _ (.tail _ (.tail _ (.tail _ (.tail _ (.tail _ (.tail _ (.tail _ (.tail _ (.tail _ (.tail _ (.head _))))))))))))) (allC (N _ (.tail _ (.tail _ (.tail _ (.head _))))) (allC (N _ (.tail _ (.tail _ (.tail _ (.tail _ (.head _)))))) (allC (N _ (.tail _ (.tail _ (.tail _ (.tail _ (.tail _ (.head _))))))) (allC (N _ (.tail _ (.tail _ (.tail _ (.tail _ (.tail _ (.tail _ (.head _)))))))) (allC (N _ (.tail _ (.tail _ (.tail _ (.tail _ (.tail _ (.tail _ (.tail _ (.head _))))))))) (allC (N _ (.tail _ (.tail _ (.tail _ (.tail _ (.tail _ (.tail _ (.tail _ (.tail _ (.head _)))))))))) (allC (N _ (.tail _ (.tail _ (.tail _ (.tail _ (.tail _ (.tail _ (.tail _ (.tail _ (.tail _ (.head _))))))))))) (fun p hp => N p (.tail _ (.tail _ (.tail _ (.tail _ (.tail _ (.tail _ (.tail _ (.tail _ (.tail _ (.tail _ (.tail _ (.tail _ (.tail _ (hp)))))))))))))))))))))))))))
theorem exF {h₀ h : Heap} {L : Addr} {c d i pb lf dl : Addr × Obj} {X1 : List (Addr × Obj)} (_N : News h₀ L h (c :: d :: ([i] ++ (pb :: lf :: dl :: X1)))) : ∃ X, X = X1 := ⟨_, rfl⟩
theorem news_fill2 {h₀ h : Heap} {L : Addr} {t c d pb lf dl : Addr × Obj} {Y own X1 : List (Addr × Obj)} (N : News h₀ L h (t :: c :: d :: Y)) (hX : ∀ p ∈ pb :: lf :: dl :: X1, p ∈ Y) (ho : ∀ p ∈ own, p ∈ Y) : News h₀ L h (pb :: lf :: dl :: (t :: c :: d :: (own ++ X1))) :=
  allC (N _ (.tail _ (.tail _ (.tail _ (hX _ (.head _)))))) (allC (N _ (.tail _ (.tail _ (.tail _ (hX _ (.tail _ (.head _))))))) (allC (N _ (.tail _ (.tail _ (.tail _ (hX _ (.tail _ (.tail _ (.head _)))))))) (allC (N _ (.head _)) (allC (N _ (.tail _ (.head _))) (allC (N _ (.tail _ (.tail _ (.head _)))) (allA (fun p hp => N p (.tail _ (.tail _ (.tail _ (ho p hp))))) (fun p hp => N p (.tail _ (.tail _ (.tail _ (hX p (.tail _ (.tail _ (.tail _ hp))))))))))))))
/-- two that differ stand at two places -/
theorem news_apart {h₀ h : Heap} {L a b : Addr} {o o' : Obj} {X : List (Addr × Obj)} (N : News h₀ L h X) (ha : (a, o) ∈ X) (hb : (b, o') ∈ X) (hne : o ≠ o') : a ≠ b := fun e => hne (by
  have h1 := (N _ ha).1
  have h2 := (N _ hb).1
  subst e
  rw [h1] at h2
  exact Option.some.inj h2)
theorem lists_apart {v : Value} {vs : List Value} {n m : Nat} : listOf (List.toArray (v :: vs)) n ≠ listOf (List.toArray ([] : List Value)) m := by
  intro e
  have := congrArg Obj.data e
  simp [W.listOf] at this
theorem list_dict {vs : List Value} {n m : Nat} {es : List DictEntry} : listOf (List.toArray vs) n ≠ dictOf es m := by
  intro e
  have := congrArg Obj.cls e
  simp [W.listOf, dictOf] at this
end Mine
namespace Mine
theorem mem_fill {a1 a2 a3 a4 a5 a6 a7 lf dl pb : Addr × Obj} {X : List (Addr × Obj)} (p : Addr × Obj) (hp : p ∈ pb :: lf :: dl :: (a1 :: a2 :: a3 :: a4 :: a5 :: a6 :: a7 :: X)) : p ∈ a1 :: a2 :: a3 :: a4 :: a5 :: a6 :: a7 :: lf :: dl :: pb :: X := by
  revert p; exact allC (.tail _ (.tail _ (.tail _ (.tail _ (.tail _ (.tail _ (.tail _ (.tail _ (.tail _ (.head _)))))))))) (allC (.tail _ (.tail _ (.tail _ (.tail _ (.tail _ (.tail _ (.tail _ (.head _)))))))) (allC (.tail _ (.tail _ (.tail _ (.tail _ (.tail _ (.tail _ (.tail _ (.tail _ (.head _))))))))) (allC (.head _) (allC (.tail _ (.head _)) (allC (.tail _ (.tail _ (.head _))) (allC (.tail _ (.tail _ (.tail _ (.head _)))) (allC (.tail _ (.tail _ (.tail _ (.tail _ (.head _))))) (allC (.tail _ (.tail _ (.tail _ (.tail _ (.tail _ (.head _)))))) (allC (.tail _ (.tail _ (.tail _ (.tail _ (.tail _ (.tail _ (.head _))))))) (fun p hp => .tail _ (.tail _ (.tail _ (.tail _ (.tail _ (.tail _ (.tail _ (.tail _ (.tail _ (.tail _ (hp))))))))))))))))))))
theorem three_in {α : Type} {a b c : α} {X Y : List α} (h : ∀ p ∈ a :: b :: c :: X, p ∈ Y) : a ∈ Y ∧ b ∈ Y ∧ c ∈ Y ∧ ∀ p ∈ X, p ∈ Y := ⟨h _ (.head _), h _ (.tail _ (.head _)), h _ (.tail _ (.tail _ (.head _))), fun p hp => h p (.tail _ (.tail _ (.tail _ hp)))⟩
end Mine
end
-- law5
section
theorem Mine.resetlaw5 : True := by (w_top off; trivial)
open PySem PySem.W PyProof.Rows PyProof.Rows.LCg
set_option Elab.async false
set_option maxRecDepth 100000
set_option maxHeartbeats 8000000
namespace Mine
structure Box (P : Prop) : Prop where
  out : P
theorem ints_of_all : ∀ {vs : List Value}, (∀ x ∈ vs, ∃ n t, x = Value.int n t) → ∃ ns, IntsAre vs ns
  | [], _ => ⟨[], .nil⟩
  | v :: r, h => by
    obtain ⟨n, t, rfl⟩ := h v (.head _)
    obtain ⟨ns, hns⟩ := ints_of_all (vs := r) fun x hx => h x (.tail _ hx)
    exact ⟨n :: ns, .cons n t hns⟩
theorem ints_all : ∀ {vs : List Value} {ns : List Int}, IntsAre vs ns → ∀ x ∈ vs, ∃ n t, x = Value.int n t := by
  intro vs ns r
  induction r with
  | nil => exact fun _ h => nomatch h
  | cons n t _ ih => exact fun x hx => (List.mem_cons.mp hx).elim (fun e => ⟨n, t, e⟩) (ih x)
theorem ints_pick {vs : List Value} {ns : List Int} (h : IntsAre vs ns) (lo hi st : Option Int) : ∃ ms, IntsAre (slicePick vs.toArray lo hi st).toList ms := by
  refine ints_of_all fun x hx => ints_all h x ?_
  unfold slicePick at hx
  rw [List.toList_toArray] at hx
  obtain ⟨i, _, e⟩ := List.mem_filterMap.mp hx
  have := Array.mem_of_getElem? e
  simpa using this
noncomputable def StepMark : Prop := True
theorem step_at {n : Int} {u v : Tok} (h0 : 0 ≤ n) (h1 : n < 2) : ∃ t, [Value.str (Str.ofString "\t") u, .str (Str.ofString " \t") v][n.toNat]? = some (.str (stepF n) t) := by
  k_with_none
  k_with "om" => with_reducible first | exact Mine.om336 (by assumption) (by assumption) | fail
  have : n = 0 ∨ n = 1 := by omega
  rcases this with rfl | rfl
  · exact ⟨_, rfl⟩
  · exact ⟨_, rfl⟩
theorem step_len (n : Int) : (stepF n).length ≤ 10 := by unfold stepF; split <;> decide
noncomputable def tt : { P : Prop // Box P → PySem.Challenge.rw_rs0134_01.Holds } := ⟨_, fun (hX9 : Box _) => hdRun hd hdNo hdYes (by
  k_with "execs cons" => (k_here; (fail_if_success with_reducible (rename Mine.NoLet => kL)); (with_reducible refine wpAny_execs_cons ?_); (try dsimp only); refine Mine.letQS ?_; intro _ _)
  k_with "storeName" => (k_here; (fail_if_success with_reducible (rename Mine.NoStore => kL)); k_dflt (refine' Mine.storeLet (by k_asm) (by k_asm) ?_ (by rfl) (by rfl); k_whole; intro _ _ _ _; (try k_sweep)))
  k_with "off" => (intro _; intros; repeat (first | exact rfl | (refine Eq.trans (if_neg (by first | assumption | (refine' Mine.ne_of_out (by assumption) (by repeat (first | with_reducible exact List.mem_cons_self | refine List.mem_cons_of_mem _ ?_))))) ?_)))
  k_with "eval BinOp" => ((fail_if_success with_reducible (rename NoLet => kL)); k_fold)
  k_with "eval Compare" => ((fail_if_success with_reducible (rename NoLet => kL)); k_fold)
  k_with "eval Call" => ((fail_if_success with_reducible (rename NoLet => kL)); k_fold)
  k_with "eval Subscript" => ((fail_if_success with_reducible (rename NoLet => kL)); k_fold)
  k_with "eval Tuple" => ((fail_if_success with_reducible (rename NoLet => kL)); k_fold)
  k_with "eval List" => ((fail_if_success with_reducible (rename NoLet => kL)); k_fold)
  k_with "spliced" => ((fail_if_success with_reducible (rename NoLet => kL)); k_fold)
  k_with "unf" => (refine' code_defC ?enk1 ?enk2 ?enk3 ?enk4 ?enk5 ?enkA ?enkF ?enkK ?enk6 ?enk7 ?enk8 ?enk9 ?enkB ?enkD ?_ ?enc2 ?enc3 ?enc4; (case enkA => exact rfl); (case enkF => assumption); (case enkK => assumption); (case enk1 => k_asm); (case enk2 => k_asm); (case enk3 => k_asm); (case enk4 => k_asm); (case enk5 => k_asm); (case enk6 => k_is); (case enk7 => k_is); (case enk8 => first | assumption | (show _ < recursionLimit; dsimp only; omega) | ktr_room); (case enk9 => exact BindsTo.of_eq rfl); (case enkB => exact rfl); (case enkD => decide +kernel); (case enc2 => exact rfl); (case enc3 => exact rfl); (case enc4 => exact rfl); k_whole; intro _ _ _ _ _ _ _ zN' zY' zB' _ _ zl1; (try k_lt zl1); k_cells zY'; (try simp only [List.cons_append, List.nil_append] at zN'); (try dsimp only); (try k_lift zB'); (try k_fold))
  k_with "enter" => (refine' code_def ?enk1 ?enk2 ?enk3 ?enk4 ?enk5 ?enkA ?enkF ?enkK ?enk6 ?enk7 ?enk8 ?enk9 ?enkB ?_ ?enc2 ?enc3 ?enc4 ?enc5; (case enkA => exact rfl); (case enkF => assumption); (case enkK => assumption); (case enk1 => k_asm); (case enk2 => k_asm); (case enk3 => k_asm); (case enk4 => k_asm); (case enk5 => k_asm); (case enk6 => k_is); (case enk7 => k_is); (case enk8 => first | assumption | (show _ < recursionLimit; dsimp only; omega) | ktr_room); (case enk9 => exact BindsTo.of_eq rfl); (case enc5 => decide); (case enkB => exact locs rfl); (case enc2 => exact rfl); (case enc3 => exact rfl); (case enc4 => exact rfl); k_whole; intro _ _ _ _ _ _ _ _ _; (try dsimp only); (try k_fold))
  k_with "InvEndG" => (refine Hold.mk ?_)
  k_with "pyIter ref" => (refine Hold.mk ?_)
  k_with "call ref" => (k_here; (with_reducible show wpAny _ _ (call (Value.ref 28) _) _ _ _); (with_reducible refine wpAny_call (strcoll_code (by k_asm) (by k_asm) (by k_asm) (by k_asm) (by k_asm) rfl rfl (by first | assumption | (dsimp only [Around.deeper]; omega)) ?_)); intro _ _ _ _ _; (try dsimp only))
  k_with "kall" => (first | exact List.forall_mem_nil _ | assumption | exact all_ne_of_lt (by assumption) | (refine' List.forall_mem_cons.mpr ⟨(by k_ne), (by k_all)⟩) | exact tbn_neAll (by assumption) | exact tbn_neAll (And.right (by assumption)) | exact tbn_neAll (And.right (And.right (by assumption))) | exact tbn_neAll (And.right (And.right (And.right (by assumption)))) | exact tbn_neAll (And.right (And.right (And.right (And.right (by assumption))))) | exact tbn_neAll (And.right (And.right (And.right (And.right (And.right (by assumption)))))) | exact tbn_neAll (And.right (And.right (And.right (And.right (And.right (And.right (by assumption))))))) | exact tbn_neAll (And.right (And.right (And.right (And.right (And.right (And.right (And.right (by assumption)))))))) | exact tbn_neAll (And.right (And.right (And.right (And.right (And.right (And.right (And.right (And.right (by assumption))))))))) | exact tbn_neAll (And.right (And.right (And.right (And.right (And.right (And.right (And.right (And.right (And.right (by assumption)))))))))) | exact tbn_neAll (And.right (And.right (And.right (And.right (And.right (And.right (And.right (And.right (And.right (And.right (by assumption))))))))))))
  k_with "call builtin:list.append" => (k_here; (with_reducible show wpAny _ _ (call (Value.builtin _) [Value.ref _, _]) _ _ _); k_dflt (refine' append_K (by k_asm) (by k_asm) (by k_upd) ?_ (by first | assumption | size_fits); k_whole); intro _ _ _; (try k_sweep))
  k_with "brkQ" => (dsimp only [brkQ])
  k_with "BrkEnd" => (refine Hold.mk ?_)
  k_with "call builtin:len" => (k_here; (with_reducible show wpAny _ _ (call (Value.builtin "len") [Value.str _ _]) _ _ _); refine len_str (by omega) ?_)
  k_with "call builtin:len" => (k_here; (with_reducible show wpAny _ _ (call (Value.builtin "len") [Value.ref _]) _ _ _); refine PyProof.Rows.len_list (News.isList (by k_asm) (by k_mem)) (by rw [List.size_toArray]; first | omega | (simp only [List.length_cons]; omega)) ?_; rw [List.size_toArray])
  k_with "call builtin:len" => (k_here; (with_reducible show wpAny _ _ (call (Value.builtin "len") [Value.ref _]) _ _ _); refine PyProof.Rows.len_tuple (News.isTup (by k_asm) (by k_mem)) (by rw [List.size_toArray]; omega) ?_; rw [List.size_toArray])
  k_with "kmem" => (with_reducible first | assumption | exact List.mem_cons_self | (refine List.mem_cons_of_mem _ ?_; k_mem) | (refine List.mem_append_left _ ?_; k_mem))
  k_with "CompSrc" => (refine Hold.mk ?_)
  k_with "exec Assign cons ListComp" => (refine Hold.mk ?_)
  k_with "eval ListComp" => (refine Hold.mk ?_)
  k_with "exec For Name Call cons nil" => (refine Hold.mk ?_)
  k_with "FPost" => (refine Hold.mk ?_)
  k_with "call ref" => (k_here; (with_reducible show wpAny _ _ (call (Value.ref 191) _) _ _ _); refine Hold.mk ?_)
  k_with "call builtin:sum" => (k_here; (with_reducible show wpAny _ _ (call (Value.builtin "sum") [Value.ref _]) _ _ _); refine LSm.sum_ints (by k_asm) (by k_asm) rfl (News.isList (by k_asm) (by with_reducible k_mem)) (by assumption) ?_; intro _ _ _ _ _; (try dsimp only))
  k_with "subscriptTail" => (k_here; (with_reducible show wpAny _ _ (subscriptTail _ _ (Value.ref _) (Value.int _ _)) _ _ _); (with_reducible refine item_litK (News.isList (by k_asm) (by with_reducible k_mem)) (by omega) (by omega) (by with_reducible assumption) ?_))
  k_with "eval Name" => (k_here; (with_reducible show wpAny _ _ (eval (Expr.Name _ _) (compEnvC _ _ _ _)) _ _ _); k_dflt (first | refine LCgL.ld_own (by k_asm) (by k_mem) (by with_reducible assumption) (by with_reducible assumption) ?_ | (refine' lcf_free (by k_asm) (by rfl) (by k_mem) (by k_asm) ?_ (by rfl) (by rfl); k_whole) | refine LCgL.ld_global (by k_asm) (by k_asm) (by k_asm) (by k_is) ?_ | refine LCgL.ld_built (by k_asm) (by k_asm) (by k_asm) (by k_is) (by boot_by_name) (by decide) ?_))
  k_with "compareOp Eq ref ref" => (k_here; (with_reducible show wpAny _ _ (compareOp CmpOp.Eq (Value.ref _) (Value.ref _)) _ _ _); refine ke_eq_ints (News.isList (by k_asm) (by with_reducible k_mem)) (News.isList (by k_asm) (by with_reducible k_mem)) (by assumption) (by first | exact IntsAre.nil | assumption) (by dsimp only [Around.deeper]; omega) ?_)
  k_with "subscriptTail" => (k_here; (with_reducible show wpAny _ _ (subscriptTail _ _ (Value.ref _) (Value.int (-1) _)) _ _ _); (with_reducible refine item_lastK (News.isList (by k_asm) (by with_reducible k_mem)) (by with_reducible assumption) ?_))
  k_with "subscriptTail Name Slice ref ref" => (k_here; (with_reducible show wpAny _ _ (subscriptTail _ (PySem.Expr.Slice _ _ none _) (Value.ref _) (Value.ref _)) _ _ _); k_dflt (refine' kmk_slice (by k_asm) (by k_asm) (by exact News.isList (by k_asm) (by with_reducible k_mem)) (by kmk_part) (by kmk_part) ?_ (by with_unfolding_all rfl) (by kmk_pure) (by rw [List.size_toArray, sizeLine_eq]; omega)); intro _ _ _ _ _; (try dsimp only))
  k_with "call ref" => (refine Hold.mk ?_)
  k_with "subscriptTail Name Slice ref ref" => (k_here; (with_reducible show wpAny _ _ (subscriptTail _ (PySem.Expr.Slice (some _) _ (some _) _) (Value.ref _) (Value.ref _)) _ _ _); k_dflt (refine' kmk_slice3_lit (by k_asm) (by k_asm) (by kmk_list) (by kmk_part) (by kmk_part) (by kmk_part) (by decide) rfl ?_ (by with_unfolding_all rfl) (by kmk_pure) (by kmk_size)); intro _ _ _ _ zl1; (try k_lt zl1); (try k_sweep))
  k_with "subscriptTail" => (k_here; (with_reducible show wpAny _ _ (subscriptTail _ _ (Value.ref _) (Value.int _ _)) _ _ _); (rename StepMark => hSM); refine Hold.mk ?_)
  k_with "om" => with_reducible first | exact Mine.om10 (by assumption) (by assumption) | exact Mine.om35 (by assumption) | exact Mine.om57 (by assumption) | exact Mine.om78 (by assumption) | exact Mine.om89 | exact Mine.om102 | exact Mine.om105 (by assumption) (by assumption) (by assumption) | exact Mine.om119 | exact Mine.om131 (by assumption) | exact Mine.om73 | exact Mine.om71 | exact Mine.om145 (by assumption) (by assumption) | exact Mine.om79 | exact Mine.om164 (by assumption) | exact Mine.om20 (by assumption) | exact Mine.om97 (by assumption) | exact Mine.om45 (by assumption) | exact Mine.om111 (by assumption) | exact Mine.om124 (by assumption) | exact Mine.om286 (by assumption) (by assumption) (by assumption) | exact Mine.om289 (by assumption) | exact Mine.om115 | exact Mine.om349 | exact Mine.om167 | exact Mine.om120 | exact Mine.om377 | exact Mine.om378 | exact Mine.om379 (by assumption) (by assumption) | exact Mine.om383 (by assumption) | exact Mine.om388 (by assumption) | exact Mine.om39 | exact Mine.om394 (by assumption) | exact Mine.om398 (by assumption) | exact Mine.om406 | exact Mine.om408 | exact Mine.om172 (by assumption) | exact Mine.om412 | exact Mine.om414 (by assumption) | exact Mine.om419 | exact Mine.om421 | exact Mine.om423 | exact Mine.om424 | exact Mine.om427 | exact Mine.om438 (by assumption) | exact Mine.om447 (by assumption) | exact Mine.om454 | exact Mine.om465 (by assumption) | exact Mine.om117 | exact Mine.om198 | exact Mine.om474 | exact Mine.om495 (by assumption) | exact Mine.om501 (by assumption) | exact Mine.om502 | exact Mine.om29 | exact Mine.om519 | exact Mine.om520 | exact Mine.om524 | exact Mine.om525 | exact Mine.om491 | fail
  k_fill
  intro w s₀ s₁ mg mb G Y fa o pm cd doc dV kV ho hd hcd hD hmg hg args vals as hpre hlay hrd hwl hlo
  have KX := km_in_of Y
  km_tabs Y
  have X := (Ground.X G).1
  have V := (Ground.X G).2
  refine Ground.open G ?_
  intro T B D TE TW
  try (refine guard_noD D (by decide +kernel) ?_; clear D)
  km_lay T hmg ho hd cd
  clear hmg
  wrow_args hpre hlay hrd hwl hlo
  all_goals (
    first | refine callC_kw (enter_call ?_) | refine enter_call ?_
    w_top on
    refine kn_postG hT9 (fun _ _ => rfl) ?_ ?_
    · wrow_post
    w_call any ho hd hcd hD T F
    clear hd
    kn_ghosts F T
    k_drop
    skip)
  all_goals try k_fold
  have hNL : NoLet := trivial
  have hNS : NoStore := trivial
  k_steps
  unfold Hold
  clear hNL
  rename_i script hs hlay0 hL' hr' hl2 as1 as2 ls svs as3 hL ra w1 r0 hI hrr hlen hTrue h₁ tk₁ o7 o6 o5 o4 o3 o2x o1 d7 d6 d5 d4 d3 d2x d1 XC XG TG BG l0 h2 o2 F N d2
  replace d7 : o7.data = .cell none := d7
  replace d6 : o6.data = .cell none := d6
  replace d5 : o5.data = .cell none := d5
  replace d4 : o4.data = .cell none := d4
  replace d3 : o3.data = .cell none := d3
  replace d1 : o1.data = .cell (some (.ref ls)) := d1
  replace F : Fr (ghostOf s₁.heap [(149, 145)]) s₁.heap.objs.size h2 (fun _ => none) := F
  replace hlen : script.length ≤ 63 := by omega
  clear hs hlay0 hL' hr' hl2 as1 as2 hL ra w1 r0 hrr hTrue d2x XC as3
  clear G Y hD hcd ho V TE TW T B X hT8
  replace codeHd : CodeHd (ghostOf s₁.heap [(149, 145)]) 149 145 := codeHd
  generalize hG0 : ghostOf s₁.heap [(149, 145)] = G0 at *
  replace hG0 := Hold.mk hG0
  replace codeHd := Hold.mk codeHd
  generalize s₁.heap.objs.size = L at *
  refine wpAny_Assign_Name ?_ (by with_unfolding_all rfl)
  refine ListComp_G F (by with_unfolding_all rfl) (by decide) rfl (by decide) ?_
  k_steps
  unfold Hold
  rename IsRange _ _ _ _ _ _ _ _ => hR
  rename Fr _ _ _ _ => F3
  rename News _ _ _ _ => N3

  refine pyIter_range_K F3 N3 hR (by decide) (n := 3) (by decide) fun I h4 F4 N4 hltI => ?_
  clear F3 N3
  refine ⟨_, F4, N4, fun D C oC h5 hC F5 N5 hltD hDC => ?_⟩
  clear F4 N4
  refine comp1 rfl rfl (LIt.range rfl (a := 0) (n := 3)) (fun _ _ _ h => h.1) (fun i ys X => X = _ ∧ ∃ ns, IntsAre ys ns ∧ ns.length = i) (own₀ := [(I, _)]) F5 N5 hC rfl (fun _ hp => nomatch hp) (fun q hq p hp => by rw [List.mem_singleton.mp hq]; exact Nat.ne_of_lt (hltI p hp)) (fun p hp => ⟨Nat.ne_of_lt (Nat.lt_trans (hltD p hp) hDC), Nat.ne_of_lt (hltD p hp)⟩) hDC ⟨rfl, [], .nil, rfl⟩ (fun i ys X hi h => by obtain ⟨_, ns, e1, e2⟩ := h; rw [e1.length, e2]; omega) ?_ ?_
  · rintro i v ys X own Y oC m₂ h tk E' hi hz1 hz2 hC2 hmk F6 N6 hXY hOY hCY off hd
    refine tnil ?_
    try (refine letQS ?_; intro Q3 s3)
    obtain ⟨_, t, rfl⟩ := hz1
    obtain ⟨rfl, ns, hys, hnl⟩ := hz2
    clear F5 N5 hC
    have y1 := hXY (L + 1, o1) (by simp only [List.mem_cons, true_or, or_true])
    rename IntsAre svs script => hI
    obtain ⟨ms, hms⟩ := ints_pick hI (some (0 + (i : Int))) (some 21) (some 3)
    k_steps
    rename Fr _ _ _ _ => F7
    rename News _ _ _ _ => N7
    refine TEnd.grow [] _ F7 N7 (fun p hp => .tail _ (.tail _ hp)) (fun _ hp => nomatch hp) (fun _ hp => nomatch hp) hC2 hXY hOY hCY off hd ⟨rfl, _, IntsAre.snoc hys _ _, by rw [List.length_append, hnl]; rfl⟩
  · rintro ys m₂ X oC h tk hz4 hC2 F6 N6 hXC
    try (refine letQS ?_; intro Q5 s5)
    obtain ⟨rfl, ns, hys, hnl⟩ := hz4
    obtain ⟨na, nb, nc, rfl⟩ : ∃ a b c, ns = [a, b, c] := by
      match ns, hnl with
      | [a, b, c], _ => exact ⟨a, b, c, rfl⟩
    have hD9 : ∀ p ∈ [(L + 1 + 1 + 1 + 1 + 1 + 1 + 1, o7), (L + 1 + 1 + 1 + 1 + 1 + 1, o6), (L + 1 + 1 + 1 + 1 + 1, o5), (L + 1 + 1 + 1 + 1, o4), (L + 1 + 1 + 1, o3), (L + 1 + 1, o2), (L + 1, o1), (145, tabObj #[])], p.1 < D := fun p hp => hltD p (.tail _ hp)
    have hD7 : @LT.lt Nat _ (L + 1 + 1 + 1 + 1 + 1 + 1 + 1) D := hltD _ (.tail _ (.head _))
    refine ⟨h, tk, oC, m₂, ys, _, rfl, F6, hC2, N6, fun p hp => (hXC p hp).1, fun h6 F7 N7 => ?_⟩
    clear F5 N5 hC F6 N6 hC2 hXC hltD hltI hR
    cases hys with | cons na ta hys => ?_
    cases hys with | cons nb tb hys => ?_
    cases hys with | cons nc tc hys => ?_
    cases hys
    have f0 : 0 ≤ ([na, nb, nc].getD (Int.toNat 0) 0).fmod 5 := Int.fmod_nonneg_of_pos _ (by decide)
    have f1 : ([na, nb, nc].getD (Int.toNat 0) 0).fmod 5 < 5 := Int.fmod_lt_of_pos _ (by decide)
    k_steps
    unfold Hold
    rename Fr _ _ _ _ => F8
    rename News _ _ _ _ => N8
    try dsimp only at F8 N8 ⊢
    generalize hG1 : 1 + ([na, nb, nc].getD (Int.toNat 0) 0).fmod 5 = fi at F8 N8 ⊢
    have hfi : 1 ≤ fi ∧ fi ≤ 5 := by omega
    have hse0 : 0 ≤ (([na, nb, nc].getD (Int.toNat 0) 0).fdiv 5).fmod fi := Int.fmod_nonneg_of_pos _ (by omega)
    have hse1 : (([na, nb, nc].getD (Int.toNat 0) 0).fdiv 5).fmod fi < fi := Int.fmod_lt_of_pos _ (by omega)
    generalize hG2 : 1 + (([na, nb, nc].getD (Int.toNat 0) 0).fdiv 5).fmod fi = se at F8 N8 ⊢
    have hse : 1 ≤ se ∧ se ≤ fi := by omega
    refine wpAny_call (told_code (w := w) BG F8 XG N8 TG rfl rfl (by decide) (.head _) (.cons _ _ (.cons _ _ (.cons _ _ .nil))) (by simp only [List.head?_cons]; intro q; injection q with q; omega) fun r1 vs1 n1 h9 tk9 g9 F9 N9 hI1 hlt1 hg1 => ?_)
    have hb9 : AllBare g9 := hg1 (.of_eq hg)
    have hr1D : @LT.lt Nat _ D r1 := hlt1 (D, _) (by k_mem)
    clear hg1 hlt1 F8 f0 f1 hse0 hse1
    replace N9 := cb_drop (news := [(r1, listOf vs1.toArray n1), (D, lst [Value.int na ta, .int nb tb, .int nc tc]), (L + 1 + 1 + 1 + 1 + 1 + 1 + 1, o7), (L + 1 + 1 + 1 + 1 + 1 + 1, o6), (L + 1 + 1 + 1 + 1 + 1, o5), (L + 1 + 1 + 1 + 1, o4), (L + 1 + 1 + 1, _), (L + 1 + 1, o2), (L + 1, o1), (145, tabObj #[])]) N9 (by repeat' first | exact List.forall_mem_nil _ | (refine List.forall_mem_cons.mpr ⟨by k_mem, ?_⟩))
    clear N8
    dsimp only at F9 N9 ⊢
    try dsimp only
    k_steps
    unfold Hold
    rename Fr _ _ _ _ => F8
    rename News _ _ _ _ => N8
    try dsimp only at F8 N8 ⊢
    have hp1 : 0 ≤ ([na, nb, nc].getD (Int.toNat 1) 0).fmod 3 := Int.fmod_nonneg_of_pos _ (by decide)
    have hp2 : ([na, nb, nc].getD (Int.toNat 1) 0).fmod 3 < 3 := Int.fmod_lt_of_pos _ (by decide)
    have hp3 : 0 ≤ (([na, nb, nc].getD (Int.toNat 1) 0).fdiv 3).fmod 3 := Int.fmod_nonneg_of_pos _ (by decide)
    have hp4 : (([na, nb, nc].getD (Int.toNat 1) 0).fdiv 3).fmod 3 < 3 := Int.fmod_lt_of_pos _ (by decide)
    generalize hG3 : 1 + ([na, nb, nc].getD (Int.toNat 1) 0).fmod 3 = q1 at F8 N8 ⊢
    generalize hG4 : 1 + (([na, nb, nc].getD (Int.toNat 1) 0).fdiv 3).fmod 3 = q2 at F8 N8 ⊢
    have hq1 : 1 ≤ q1 ∧ q1 ≤ 3 := by omega
    have hq2 : 1 ≤ q2 ∧ q2 ≤ 3 := by omega
    clear hp1 hp2 hp3 hp4
    refine wpAny_call (told_code (w := w) BG F8 XG N8 TG rfl rfl (by decide) (.head _) (.cons _ _ (.cons _ _ (.cons _ _ .nil))) (by simp only [List.head?_cons]; intro q; injection q with q; omega) fun r2 vs2 n2 h9 tk9 g9 F9 N9 hI2 hlt1 hg1 => ?_)
    replace hb9 := hg1 hb9
    have hr2r : @LT.lt Nat _ r1 r2 := hlt1 (r1, _) (by k_mem)
    have hr2D : @LT.lt Nat _ D r2 := hlt1 (D, _) (by k_mem)
    clear hg1 hlt1 F8
    replace N9 := cb_drop (news := [(r2, listOf vs2.toArray n2), (r1, listOf vs1.toArray n1), (D, lst [Value.int na ta, .int nb tb, .int nc tc]), (L + 1 + 1 + 1 + 1 + 1 + 1 + 1, o7), (L + 1 + 1 + 1 + 1 + 1 + 1, o6), (L + 1 + 1 + 1 + 1 + 1, o5), (L + 1 + 1 + 1 + 1, o4), (L + 1 + 1 + 1, _), (L + 1 + 1, o2), (L + 1, o1), (145, tabObj #[])]) N9 (by repeat' first | exact List.forall_mem_nil _ | (refine List.forall_mem_cons.mpr ⟨by k_mem, ?_⟩))
    clear N8
    dsimp only at F9 N9 ⊢
    have hc1 : toldF [fi, se, 0] 5 = cutF fi se 5 := told_cut (by omega) (by omega) (by omega) (by omega)
    have hc2 : toldF [q1, q2, 0] 5 = cutF q1 q2 5 := told_cut (by omega) (by omega) (by omega) (by omega)
    try dsimp only
    k_steps
    unfold Hold
    rename Fr _ _ _ _ => F8
    rename News _ _ _ _ => N8
    refine wpAny_call (cut_code (w := w) BG F8 XG N8 TG rfl rfl (by decide) (by omega) (by omega) (by omega) (by omega) fun r3 vs3 n3 h10 tk10 F10 N10 hI3 hlt3 => ?_)
    clear F8 N8
    rw [hc1] at hI1
    try dsimp only
    k_steps
    unfold Hold
    rename Fr _ _ _ _ => F8
    rename News _ _ _ _ => N8
    try dsimp only at F8 N8 ⊢
    rw [hG3, hG4]
    refine wpAny_call (cut_code (w := w) BG F8 XG N8 TG rfl rfl (by decide) (by omega) (by omega) (by omega) (by omega) fun r4 vs4 n4 h11 tk11 F11 N11 hI4 hlt4 => ?_)
    clear F8
    replace N11 := cb_drop (news := [(r4, listOf vs4.toArray n4), (r2, listOf vs2.toArray n2), (r1, listOf vs1.toArray n1), (D, lst [Value.int na ta, .int nb tb, .int nc tc]), (L + 1 + 1 + 1 + 1 + 1 + 1 + 1, o7), (L + 1 + 1 + 1 + 1 + 1 + 1, o6), (L + 1 + 1 + 1 + 1 + 1, o5), (L + 1 + 1 + 1 + 1, o4), (L + 1 + 1 + 1, _), (L + 1 + 1, o2), (L + 1, o1), (145, tabObj #[])]) N11 (by repeat' first | exact List.forall_mem_nil _ | (refine List.forall_mem_cons.mpr ⟨by k_mem, ?_⟩))
    clear N8 hlt4 hlt3
    clear hI3
    rw [hc2] at hI2
    have hx0 : 0 ≤ (([na, nb, nc].getD (Int.toNat 2) 0).fdiv 4).fmod 2 := Int.fmod_nonneg_of_pos _ (by decide)
    have hx1 : (([na, nb, nc].getD (Int.toNat 2) 0).fdiv 4).fmod 2 < 2 := Int.fmod_lt_of_pos _ (by decide)
    have hSM : StepMark := trivial
    try dsimp only
    k_steps
    unfold Hold
    (rename StepMark => hSM; clear hSM)
    generalize hG5 : (([na, nb, nc].getD (Int.toNat 2) 0).fdiv 4).fmod 2 = q3 at hx0 hx1 ⊢
    rename Fr _ _ _ _ => F8
    rename News _ _ _ _ => N8
    obtain ⟨tS, hS⟩ := step_at (u := _) (v := _) hx0 hx1
    refine item_litK (News.isList N8 (.head _)) hx0 (by omega) hS ?_
    try dsimp only
    k_steps
    unfold Hold
    rename Fr _ _ _ _ => F9
    rename News _ _ _ _ => N9
    try dsimp only at F9 N9 ⊢
    obtain ⟨hsl, hs1, hs5, hsne⟩ := cut_ok (f := fi) (g := se) (by omega) (by omega) (by omega) (by omega)
    have hcl := cells_ok (f := fi) (g := se) (by omega) (by omega) (by omega) (by omega)
    refine wpAny_call (words_code (w := w) BG F9 XG N9 TG rfl rfl (by decide) (by k_mem) hI1 hsl hs5 hs1 hcl (step_len q3) fun r5 wvs n5 h12 tk12 F12 N12 hW hlt5 => ?_)
    have hr52 : @LT.lt Nat _ r2 r5 := hlt5 (r2, _) (by k_mem)
    have hr51 : @LT.lt Nat _ r1 r5 := hlt5 (r1, _) (by k_mem)
    have hr5D : @LT.lt Nat _ D r5 := hlt5 (D, _) (by k_mem)
    clear hlt5 F9
    replace N12 := cb_drop (news := [(r5, listOf wvs.toArray n5), (r2, listOf vs2.toArray n2), (r1, listOf vs1.toArray n1), (D, lst [Value.int na ta, .int nb tb, .int nc tc]), (L + 1 + 1 + 1 + 1 + 1 + 1 + 1, o7), (L + 1 + 1 + 1 + 1 + 1 + 1, o6), (L + 1 + 1 + 1 + 1 + 1, o5), (L + 1 + 1 + 1 + 1, o4), (L + 1 + 1 + 1, _), (L + 1 + 1, o2), (L + 1, o1), (145, tabObj #[])]) N12 (by repeat' first | exact List.forall_mem_nil _ | (refine List.forall_mem_cons.mpr ⟨by k_mem, ?_⟩))
    (try clear N9); (try clear N8); (try clear F8); (try clear hS)
    have hwl : wvs.length = 5 := by rw [hW.length]; simp [wordsF]
    have hy0 : 0 ≤ (([na, nb, nc].getD (Int.toNat 2) 0).fdiv 4).fmod 5 := Int.fmod_nonneg_of_pos _ (by decide)
    have hy1 : (([na, nb, nc].getD (Int.toNat 2) 0).fdiv 4).fmod 5 < 5 := Int.fmod_lt_of_pos _ (by decide)
    try dsimp only
    k_steps
    rename Fr _ _ _ _ => F8
    rename News _ _ _ _ => N8
    try dsimp only at F8 N8 ⊢
    generalize hG6 : (([na, nb, nc].getD (Int.toNat 2) 0).fdiv 4).fmod 5 = tn at hy0 hy1 F8 N8 ⊢
    rw [slice_from wvs hy0, slice_upto wvs hy0] at N8
    refine add_K (vs := wvs.drop tn.toNat) (ws := wvs.take tn.toNat) F8 N8 (News.isList N8 (.tail _ (.head _))) (News.isList N8 (.head _)) (fun Dw h13 F13 N13 hlt13 => ?_) (by rw [sizeLine_eq, List.length_drop, List.length_take]; omega)
    have hW2 := strs_app (strs_drop tn.toNat hW) (strs_take tn.toNat hW)
    have hwl2 : (wvs.drop tn.toNat ++ wvs.take tn.toNat).length = 5 := by rw [List.length_append, List.length_drop, List.length_take]; omega
    generalize wvs.drop tn.toNat ++ wvs.take tn.toNat = wv at hW2 hwl2 N13
    generalize hWs : (wordsF (stepF q3) (cutF fi se 5) 5).drop tn.toNat ++ (wordsF (stepF q3) (cutF fi se 5) 5).take tn.toNat = ws at hW2
    have hDw2 : @LT.lt Nat _ r2 Dw := hlt13 (r2, _) (by k_mem)
    have hDw1 : @LT.lt Nat _ r1 Dw := hlt13 (r1, _) (by k_mem)
    have hDwD : @LT.lt Nat _ D Dw := hlt13 (D, _) (by k_mem)
    clear hlt13
    replace N13 := cb_drop (news := [(Dw, listOf wv.toArray 0), (r2, listOf vs2.toArray n2), (r1, listOf vs1.toArray n1), (D, lst [Value.int na ta, .int nb tb, .int nc tc]), (L + 1 + 1 + 1 + 1 + 1 + 1 + 1, o7), (L + 1 + 1 + 1 + 1 + 1 + 1, o6), (L + 1 + 1 + 1 + 1 + 1, o5), (L + 1 + 1 + 1 + 1, _), (L + 1 + 1 + 1, _), (L + 1 + 1, o2), (L + 1, o1), (145, tabObj #[])]) N13 (by repeat' first | exact List.forall_mem_nil _ | (refine List.forall_mem_cons.mpr ⟨by k_mem, ?_⟩))
    clear F8 N8 hr52 hr51 hr5D hW hwl
    try dsimp only
    k_steps
    k_with "r" => (repeat (rename _ => zz; clear_value zz; clear zz)); (rename _ => zz); revert zz
    k_with "c" => (repeat (rename _ => zz; clear_value zz; clear zz)); (rename _ => zz); clear zz
    (iterate 10 k_extra "r"); (iterate 2 k_extra "c"); (iterate 9 k_extra "r"); (iterate 1 k_extra "c"); (iterate 1 k_extra "r"); (iterate 6 k_extra "c"); (iterate 2 k_extra "r"); (iterate 6 k_extra "c"); (iterate 1 k_extra "r"); (iterate 1 k_extra "c"); (iterate 2 k_extra "r"); (iterate 2 k_extra "c"); (iterate 1 k_extra "r"); (iterate 2 k_extra "c"); (iterate 1 k_extra "r"); (iterate 1 k_extra "c"); (iterate 1 k_extra "r"); (iterate 1 k_extra "c"); (iterate 2 k_extra "r"); (iterate 1 k_extra "c"); (iterate 1 k_extra "r"); (iterate 3 k_extra "c"); (iterate 5 k_extra "r"); (iterate 1 k_extra "c"); (iterate 2 k_extra "r"); (iterate 2 k_extra "c"); (iterate 2 k_extra "r"); (iterate 3 k_extra "c"); (iterate 2 k_extra "r"); (iterate 2 k_extra "c"); (iterate 1 k_extra "r"); (iterate 1 k_extra "c"); (iterate 10 k_extra "r"); (iterate 1 k_extra "c"); (iterate 1 k_extra "r"); (iterate 1 k_extra "c"); (iterate 1 k_extra "r"); (iterate 2 k_extra "c"); (iterate 1 k_extra "r"); (iterate 2 k_extra "c"); (iterate 11 k_extra "r"); (iterate 1 k_extra "c"); (iterate 2 k_extra "r"); (iterate 1 k_extra "c"); (iterate 1 k_extra "r"); (iterate 2 k_extra "c"); (iterate 3 k_extra "r"); (iterate 4 k_extra "c"); (iterate 1 k_extra "r"); (iterate 3 k_extra "c"); (iterate 9 k_extra "r"); (iterate 2 k_extra "c"); (iterate 14 k_extra "r"); (iterate 6 k_extra "c"); (iterate 9 k_extra "r"); (iterate 4 k_extra "c"); (iterate 5 k_extra "r"); (iterate 1 k_extra "c"); (iterate 2 k_extra "r"); (iterate 3 k_extra "c"); (iterate 9 k_extra "r"); (iterate 3 k_extra "c"); (iterate 1 k_extra "r"); (iterate 1 k_extra "c"); (iterate 7 k_extra "r")
    repeat (rename _ => zz; first | (clear_value zz; clear zz) | revert zz)
    exact fun h => h.out
  )⟩
end Mine
end
-- lawt6
section
theorem Mine.resetlawt6 : True := by (w_top off; trivial)
open PySem PySem.W PyProof.Rows PyProof.Rows.LCg
set_option Elab.async false
set_option maxRecDepth 100000
set_option maxHeartbeats 8000000
namespace Mine
theorem news_keep {h₀ h : Heap} {L : Addr} {a b c d e : Addr × Obj} {fx keep : List (Addr × Obj)} (N : News h₀ L h (c :: d :: b :: e :: a :: (keep ++ fx))) : News h₀ L h (a :: b :: c :: d :: e :: (fx ++ keep)) :=
  allC (N _ (.tail _ (.tail _ (.tail _ (.tail _ (.head _)))))) (allC (N _ (.tail _ (.tail _ (.head _)))) (allC (N _ (.head _)) (allC (N _ (.tail _ (.head _))) (allC (N _ (.tail _ (.tail _ (.tail _ (.head _))))) (allA (fun p hp => N p (.tail _ (.tail _ (.tail _ (.tail _ (.tail _ (List.mem_append_right _ hp))))))) (fun p hp => N p (.tail _ (.tail _ (.tail _ (.tail _ (.tail _ (List.mem_append_left _ hp))))))))))))
theorem ReadOk.mono {w : World} {f lf : Addr} {keep keep' : List (Addr × Obj)} (h : ReadOk w f lf keep) (hs : ∀ q ∈ keep, q ∈ keep') : ReadOk w f lf keep' := by
  intro p loose mean mg mb dp un gd A₀ env outer base h₀ L m news s R ls lvs k t a1 a2 a3 a4 a5 a6 a7 a8 a9 b1 b2 b3 b4 b5 b6
  exact h p loose mean mg mb dp un gd A₀ env outer base h₀ L m news s R ls lvs k t a1 a2 a3 a4 (fun q hq => a5 q (hs q hq)) a6 a7 a8 a9 b1 b2 b3 b4 b5 b6
noncomputable def st_S6 : { P : Prop // Box P → Mine.tt.1 } := ⟨_, fun (hX9 : Box _) => by
    k_with_none
    k_with "execs cons" => (k_here; (fail_if_success with_reducible (rename Mine.NoLet => kL)); (with_reducible refine wpAny_execs_cons ?_); (try dsimp only); refine Mine.letQS ?_; intro _ _)
    k_with "storeName" => (k_here; (fail_if_success with_reducible (rename Mine.NoStore => kL)); k_dflt (refine' Mine.storeLet (by k_asm) (by k_asm) ?_ (by rfl) (by rfl); k_whole; intro _ _ _ _; (try k_sweep)))
    k_with "off" => (intro _; intros; repeat (first | exact rfl | (refine Eq.trans (if_neg (by first | assumption | (refine' Mine.ne_of_out (by assumption) (by repeat (first | with_reducible exact List.mem_cons_self | refine List.mem_cons_of_mem _ ?_))))) ?_)))
    k_with "eval BinOp" => ((fail_if_success with_reducible (rename NoLet => kL)); k_fold)
    k_with "eval Compare" => ((fail_if_success with_reducible (rename NoLet => kL)); k_fold)
    k_with "eval Call" => ((fail_if_success with_reducible (rename NoLet => kL)); k_fold)
    k_with "eval Subscript" => ((fail_if_success with_reducible (rename NoLet => kL)); k_fold)
    k_with "eval Tuple" => ((fail_if_success with_reducible (rename NoLet => kL)); k_fold)
    k_with "eval List" => ((fail_if_success with_reducible (rename NoLet => kL)); k_fold)
    k_with "spliced" => ((fail_if_success with_reducible (rename NoLet => kL)); k_fold)
    k_with "unf" => (refine' code_defC ?enk1 ?enk2 ?enk3 ?enk4 ?enk5 ?enkA ?enkF ?enkK ?enk6 ?enk7 ?enk8 ?enk9 ?enkB ?enkD ?_ ?enc2 ?enc3 ?enc4; (case enkA => exact rfl); (case enkF => assumption); (case enkK => assumption); (case enk1 => k_asm); (case enk2 => k_asm); (case enk3 => k_asm); (case enk4 => k_asm); (case enk5 => k_asm); (case enk6 => k_is); (case enk7 => k_is); (case enk8 => first | assumption | (show _ < recursionLimit; dsimp only; omega) | ktr_room); (case enk9 => exact BindsTo.of_eq rfl); (case enkB => exact rfl); (case enkD => decide +kernel); (case enc2 => exact rfl); (case enc3 => exact rfl); (case enc4 => exact rfl); k_whole; intro _ _ _ _ _ _ _ zN' zY' zB' _ _ zl1; (try k_lt zl1); k_cells zY'; (try simp only [List.cons_append, List.nil_append] at zN'); (try dsimp only); (try k_lift zB'); (try k_fold))
    k_with "enter" => (refine' code_def ?enk1 ?enk2 ?enk3 ?enk4 ?enk5 ?enkA ?enkF ?enkK ?enk6 ?enk7 ?enk8 ?enk9 ?enkB ?_ ?enc2 ?enc3 ?enc4 ?enc5; (case enkA => exact rfl); (case enkF => assumption); (case enkK => assumption); (case enk1 => k_asm); (case enk2 => k_asm); (case enk3 => k_asm); (case enk4 => k_asm); (case enk5 => k_asm); (case enk6 => k_is); (case enk7 => k_is); (case enk8 => first | assumption | (show _ < recursionLimit; dsimp only; omega) | ktr_room); (case enk9 => exact BindsTo.of_eq rfl); (case enc5 => decide); (case enkB => exact locs rfl); (case enc2 => exact rfl); (case enc3 => exact rfl); (case enc4 => exact rfl); k_whole; intro _ _ _ _ _ _ _ _ _; (try dsimp only); (try k_fold))
    k_with "InvEndG" => (refine Hold.mk ?_)
    k_with "pyIter ref" => (refine Hold.mk ?_)
    k_with "call ref" => (k_here; (with_reducible show wpAny _ _ (call (Value.ref 28) _) _ _ _); (with_reducible refine wpAny_call (strcoll_code (by k_asm) (by k_asm) (by k_asm) (by k_asm) (by k_asm) rfl rfl (by first | assumption | (dsimp only [Around.deeper]; omega)) ?_)); intro _ _ _ _ _; (try dsimp only))
    k_with "kall" => (first | exact List.forall_mem_nil _ | assumption | exact all_ne_of_lt (by assumption) | (refine' List.forall_mem_cons.mpr ⟨(by k_ne), (by k_all)⟩) | exact tbn_neAll (by assumption) | exact tbn_neAll (And.right (by assumption)) | exact tbn_neAll (And.right (And.right (by assumption))) | exact tbn_neAll (And.right (And.right (And.right (by assumption)))) | exact tbn_neAll (And.right (And.right (And.right (And.right (by assumption))))) | exact tbn_neAll (And.right (And.right (And.right (And.right (And.right (by assumption)))))) | exact tbn_neAll (And.right (And.right (And.right (And.right (And.right (And.right (by assumption))))))) | exact tbn_neAll (And.right (And.right (And.right (And.right (And.right (And.right (And.right (by assumption)))))))) | exact tbn_neAll (And.right (And.right (And.right (And.right (And.right (And.right (And.right (And.right (by assumption))))))))) | exact tbn_neAll (And.right (And.right (And.right (And.right (And.right (And.right (And.right (And.right (And.right (by assumption)))))))))) | exact tbn_neAll (And.right (And.right (And.right (And.right (And.right (And.right (And.right (And.right (And.right (And.right (by assumption))))))))))))
    k_with "call builtin:list.append" => (k_here; (with_reducible show wpAny _ _ (call (Value.builtin _) [Value.ref _, _]) _ _ _); k_dflt (refine' append_K (by k_asm) (by k_asm) (by k_upd) ?_ (by first | assumption | size_fits); k_whole); intro _ _ _; (try k_sweep))
    k_with "brkQ" => (dsimp only [brkQ])
    k_with "BrkEnd" => (refine Hold.mk ?_)
    k_with "call builtin:len" => (k_here; (with_reducible show wpAny _ _ (call (Value.builtin "len") [Value.str _ _]) _ _ _); refine len_str (by omega) ?_)
    k_with "call builtin:len" => (k_here; (with_reducible show wpAny _ _ (call (Value.builtin "len") [Value.ref _]) _ _ _); refine PyProof.Rows.len_list (News.isList (by k_asm) (by k_mem)) (by rw [List.size_toArray]; first | omega | (simp only [List.length_cons]; omega)) ?_; rw [List.size_toArray])
    k_with "call builtin:len" => (k_here; (with_reducible show wpAny _ _ (call (Value.builtin "len") [Value.ref _]) _ _ _); refine PyProof.Rows.len_tuple (News.isTup (by k_asm) (by k_mem)) (by rw [List.size_toArray]; omega) ?_; rw [List.size_toArray])
    k_with "kmem" => (with_reducible first | assumption | exact List.mem_cons_self | (refine List.mem_cons_of_mem _ ?_; k_mem) | (refine List.mem_append_left _ ?_; k_mem))
    k_with "CompSrc" => (refine Hold.mk ?_)
    k_with "exec Assign cons ListComp" => (refine Hold.mk ?_)
    k_with "eval ListComp" => (refine Hold.mk ?_)
    k_with "exec For Name Call cons nil" => (refine Hold.mk ?_)
    k_with "FPost" => (refine Hold.mk ?_)
    k_with "call ref" => (k_here; (with_reducible show wpAny _ _ (call (Value.ref 191) _) _ _ _); refine Hold.mk ?_)
    k_with "call builtin:sum" => (k_here; (with_reducible show wpAny _ _ (call (Value.builtin "sum") [Value.ref _]) _ _ _); refine LSm.sum_ints (by k_asm) (by k_asm) rfl (News.isList (by k_asm) (by with_reducible k_mem)) (by assumption) ?_; intro _ _ _ _ _; (try dsimp only))
    k_with "subscriptTail" => (k_here; (with_reducible show wpAny _ _ (subscriptTail _ _ (Value.ref _) (Value.int _ _)) _ _ _); (with_reducible refine item_litK (News.isList (by k_asm) (by with_reducible k_mem)) (by omega) (by omega) (by with_reducible assumption) ?_))
    k_with "eval Name" => (k_here; (with_reducible show wpAny _ _ (eval (Expr.Name _ _) (compEnvC _ _ _ _)) _ _ _); k_dflt (first | refine LCgL.ld_own (by k_asm) (by k_mem) (by with_reducible assumption) (by with_reducible assumption) ?_ | (refine' lcf_free (by k_asm) (by rfl) (by k_mem) (by k_asm) ?_ (by rfl) (by rfl); k_whole) | refine LCgL.ld_global (by k_asm) (by k_asm) (by k_asm) (by k_is) ?_ | refine LCgL.ld_built (by k_asm) (by k_asm) (by k_asm) (by k_is) (by boot_by_name) (by decide) ?_))
    k_with "compareOp Eq ref ref" => (k_here; (with_reducible show wpAny _ _ (compareOp CmpOp.Eq (Value.ref _) (Value.ref _)) _ _ _); refine ke_eq_ints (News.isList (by k_asm) (by with_reducible k_mem)) (News.isList (by k_asm) (by with_reducible k_mem)) (by assumption) (by first | exact IntsAre.nil | assumption) (by dsimp only [Around.deeper]; omega) ?_)
    k_with "subscriptTail" => (k_here; (with_reducible show wpAny _ _ (subscriptTail _ _ (Value.ref _) (Value.int (-1) _)) _ _ _); (with_reducible refine item_lastK (News.isList (by k_asm) (by with_reducible k_mem)) (by with_reducible assumption) ?_))
    k_with "subscriptTail Name Slice ref ref" => (k_here; (with_reducible show wpAny _ _ (subscriptTail _ (PySem.Expr.Slice _ _ none _) (Value.ref _) (Value.ref _)) _ _ _); k_dflt (refine' kmk_slice (by k_asm) (by k_asm) (by exact News.isList (by k_asm) (by with_reducible k_mem)) (by kmk_part) (by kmk_part) ?_ (by with_unfolding_all rfl) (by kmk_pure) (by rw [List.size_toArray, sizeLine_eq]; omega)); intro _ _ _ _ _; (try dsimp only))
    k_with "call ref" => (refine Hold.mk ?_)
    k_with "om" => with_reducible first | exact Mine.om8 (by assumption) | exact Mine.om12 (by assumption) (by assumption) | exact Mine.om19 (by assumption) (by assumption) (by assumption) | exact Mine.om44 (by assumption) | exact Mine.om99 (by assumption) (by assumption) (by assumption) | exact Mine.om104 | exact Mine.om143 (by assumption) (by assumption) | exact Mine.om147 | exact Mine.om166 | exact Mine.om168 (by assumption) | exact Mine.om32 | exact Mine.om174 | exact Mine.om176 (by assumption) | exact Mine.om190 (by assumption) | exact Mine.om200 | exact Mine.om207 (by assumption) | exact Mine.om210 (by assumption) | exact Mine.om213 | exact Mine.om219 | exact Mine.om222 (by assumption) | exact Mine.om226 (by assumption) (by assumption) | exact Mine.om229 | exact Mine.om243 (by assumption) | exact Mine.om264 (by assumption) | exact Mine.om58 (by assumption) (by assumption) | exact Mine.om299 | exact Mine.om305 (by assumption) | exact Mine.om307 (by assumption) | exact Mine.om311 (by assumption) | exact Mine.om98 (by assumption) | exact Mine.om39 | exact Mine.om341 (by assumption) | exact Mine.om180 (by assumption) | exact Mine.om97 (by assumption) | exact Mine.om172 (by assumption) | exact Mine.om111 (by assumption) | exact Mine.om124 (by assumption) | exact Mine.om115 | exact Mine.om120 | fail
    intro w s₀ s₁ mg mb fa o cd script ls svs hI h₁ tk₁ o7 o6 o5 o1 hNS o2 d2 d7 d6 d5 G0 XG TG BG lifted hG0 codeHd L l0 I h4 D C oC h5 hDC m₂ oC h tk na nb nc hD7 h6 ta tb tc _ _ _ _ _ _ _ _ fi hfi se hse r1 vs1 n1 h9 tk9 g9 hI1 hr1D _ _ _ q1 q2 hq1 hq2 r2 vs2 n2 h9 tk9 g9 hI2 hb9 hr2D _ _ h10 tk10 r4 vs4 h11 tk11 hI4 _ _ q3 hx0 hx1 hsl hs5 r5 h12 tk12 _ _ _ tn hy0 hy1 Dw h13 wv hwl2 ws hWs hW2 hDwD _ _ _ _ _ _ _ qk ek
    revert XG; k_fill; intro XG
    have hwa : ∀ x ∈ ws, wordOk x = true ∧ wordEnc x = true := by
      intro x hx
      rw [← hWs] at hx
      exact words_enc (by omega) (by omega) (by omega) (by omega) (by omega) (by omega) x ((List.mem_append.mp hx).elim (fun h => List.mem_of_mem_drop h) (fun h => List.mem_of_mem_take h))
    have hwsm := fun x hx => wordOk_is (hwa x hx).1
    have hwsl : ws.length = 5 := by rw [← hW2.length]; exact hwl2
    unfold Hold
    rename Fr _ _ _ _ => F8
    rename News _ _ _ _ => N8
    rename News _ _ _ _ => N8
    refine ListComp_G F8 (by with_unfolding_all rfl) (by decide) rfl (by decide) ?_
    k_steps
    unfold Hold
    rename IsRange _ _ _ _ _ _ _ _ => hR
    rename Fr _ _ _ _ => F3
    rename News _ _ _ _ => N3
    refine pyIter_range_K F3 N3 hR (by decide) (n := 5) (by decide) fun I h4 F4 N4 hltI => ?_
    clear F3 N3 hR
    refine ⟨_, F4, N4, fun D2 C2 oC h5 hC F5 N5 hltD hDC => ?_⟩
    clear F4 N4
    refine comp1 rfl rfl (LIt.range rfl (a := 0) (n := 5)) (fun _ _ _ h => h.1) (fun i ys X => X = _ ∧ StrsAre ys (writtenF ws nc i)) (own₀ := [(I, _)]) F5 N5 hC rfl (fun _ hp => nomatch hp) (fun q hq p hp => by rw [List.mem_singleton.mp hq]; exact Nat.ne_of_lt (hltI p hp)) (fun p hp => ⟨Nat.ne_of_lt (Nat.lt_trans (hltD p hp) hDC), Nat.ne_of_lt (hltD p hp)⟩) hDC ⟨rfl, .nil⟩ (fun i ys X hi h => by rw [h.2.length]; simp [writtenF]; omega) ?_ ?_
    · rintro i v ys X own Y oC m₂ h tk E' hi hz6 hz7 hC2 hmk F6 N6 hXY hOY hCY off hd
      refine tnil ?_
      try (refine letQS ?_; intro Q8 s8)
      obtain ⟨_, t, rfl⟩ := hz6
      obtain ⟨rfl, hys⟩ := hz7
      clear F5 N5 hC hltD hltI
      have y3 := hXY (L + 1 + 1 + 1, _) (.tail _ (.tail _ (.tail _ (.tail _ (.tail _ (.tail _ (.tail _ (.tail _ (.head _)))))))))
      have y4 := hXY (L + 1 + 1 + 1 + 1, _) (.tail _ (.tail _ (.tail _ (.tail _ (.tail _ (.tail _ (.tail _ (.head _))))))))
      have y0 := hXY (Dw, _) (.head _)
      have yD : (D, listOf (List.toArray [Value.int na ta, .int nb tb, .int nc tc]) 3) ∈ Y := hXY (D, _) (.tail _ (.tail _ (.tail _ (.head _))))
      have hl2 : [Value.int na ta, .int nb tb, .int nc tc][(2 : Int).toNat]? = some (.int nc tc) := rfl
      obtain ⟨vx, hvx⟩ : ∃ v, wv[i]? = some v := ⟨_, List.getElem?_eq_getElem (by omega)⟩
      obtain ⟨x, tx, rfl, hxs⟩ := strs_at hW2 hvx
      have hvx' : wv[((0 : Int) + (i : Int)).toNat]? = some (.str x tx) := by
        rw [show ((0 : Int) + (i : Int)).toNat = i by omega]; exact hvx
      k_steps
      unfold Hold
      rename Fr _ _ _ _ => F7
      rename News _ _ _ _ => N7
      obtain ⟨hk1, hk2, hk3, hk4⟩ := hwsm x (List.mem_of_getElem? hxs)
      have hpw : (0 + (i : Int) + 3).toNat = i + 3 := by omega
      rw [bitAnd_m1, hpw]
      have hb : nc.fdiv (2 ^ (i + 3)) % 2 = 0 ∨ nc.fdiv (2 ^ (i + 3)) % 2 = 1 := by omega
      have hwr := writtenF_succ (n := nc) hxs
      rcases hb with hb | hb
      · rw [hb] at hwr ⊢
        refine wpAny_call (quoted_code (w := w) BG F7 XG N7 TG rfl rfl (by decide) (by show x.cps.size ≤ 200; omega) (by omega) fun t' h' tk' F8 N8 => ?_)
        try dsimp only
        k_steps
        refine TEnd.grow [] _ F8 N8 (fun p hp => hp) (fun _ hp => nomatch hp) (fun _ hp => nomatch hp) hC2 hXY hOY hCY off hd ⟨rfl, by rw [hwr]; exact strs_snoc hys (writeF x 0) _⟩
      · rw [hb] at hwr ⊢
        refine wpAny_call (bare_code (w := w) BG F7 XG N7 TG rfl rfl (by decide) (by omega) hk2 (by omega) fun t' h' tk' F8 N8 => ?_)
        try dsimp only
        k_steps
        refine TEnd.grow [] _ F8 N8 (fun p hp => hp) (fun _ hp => nomatch hp) (fun _ hp => nomatch hp) hC2 hXY hOY hCY off hd ⟨rfl, by rw [hwr]; exact strs_snoc hys (writeF x 1) _⟩
    · rintro ys m₂ X oC h tk hz9 hC2 F6 N6 hXC
      try (refine letQS ?_; intro Q10 s10)
      obtain ⟨rfl, hys⟩ := hz9
      refine ⟨h, tk, oC, m₂, ys, _, rfl, F6, hC2, N6, fun p hp => (hXC p hp).1, fun h6 F7 N7 => ?_⟩
      have hD2w : @LT.lt Nat _ Dw D2 := hltD (Dw, _) (.tail _ (.head _))
      clear F5 N5 hC F6 N6 hC2 hXC hltD hltI
      have hyl : ys.length = 5 := by rw [hys.length]; simp [writtenF]
      replace N7 : News G0 L h6 ((D2, listOf (List.toArray ys) ys.length) :: _) := N7
      obtain ⟨hsum, hjl⟩ := written_sums (n := nc) hwsl fun x hx => (hwa x hx).1
      k_steps
      rename News _ _ _ _ => N7
      refine join_listW (News.isList N7 (.head _)) hys (by decide +kernel) hsum ?_
      intro t5 k5
      try dsimp only
      generalize hG7 : Txt.join (Str.ofString "") (writtenF ws nc 5) = tx0 at hjl ⊢
      k_steps
      unfold Hold
      rename CarriedAll _ _ => hcar
      rename NewPlain _ _ _ _ => hpl
      rename Fr _ _ _ _ => F8
      rename News _ _ _ _ => N8
      have hSg := strs_of_carried hcar
      have hneL := hpl.ne_locals F8
      obtain ⟨⟨nL, eL⟩, hneN⟩ := hpl
      rename G0.get? _ = none => hnone
      try dsimp only at hneL hneN eL hnone
      try dsimp only
      generalize hlf : Array.size _ = lf at hneL hneN eL hnone ⊢
      have N9 : News G0 L _ ((lf, listOf (List.toArray _) nL) :: _) := fun p hp => (List.mem_cons.mp hp).elim (fun e => e ▸ ⟨eL, hneL, hnone⟩) (N8 p)
      have hlfw : @Ne Nat Dw lf := hneN (Dw, _) (by k_mem)
      have hlf145 : @Ne Nat lf 145 := (hneN (145, _) (by k_mem)).symm
      have hCH : CodeHd G0 149 145 := codeHd
      refine wpAny_call (stream_code (w := w) (lf := lf) (kl := nL) (news := [(Dw, listOf wv.toArray 0), (r2, listOf vs2.toArray n2), (r1, listOf vs1.toArray n1), (D, listOf (List.toArray [Value.int na ta, .int nb tb, .int nc tc]) 3), (L + 1 + 1 + 1 + 1 + 1 + 1 + 1, o7), (L + 1 + 1 + 1 + 1 + 1 + 1, o6), (L + 1 + 1 + 1 + 1 + 1, o5), (L + 1 + 1 + 1 + 1, _), (L + 1 + 1 + 1, _), (L + 1 + 1, o2), (L + 1, o1)]) BG F8 XG (cb_drop N9 (by repeat' first | exact List.forall_mem_nil _ | (refine List.forall_mem_cons.mpr ⟨by k_mem, ?_⟩))) TG hCH rfl rfl (by decide) (by repeat' first | exact List.forall_mem_nil _ | (refine List.forall_mem_cons.mpr ⟨Nat.ne_of_gt (show @LT.lt Nat _ 145 _ by omega), ?_⟩)) hlf145 (fun p hp => hneN p (by
          revert p
          repeat' first | exact List.forall_mem_nil _ | (refine List.forall_mem_cons.mpr ⟨by k_mem, ?_⟩))) fun h10 tk10 sx sdx sf spb t1 t2 t3 t4 t5 t6 t7 ps keep F10 N10 hsx hsdx hsf hk1 hk2 hk3 hRead => ?_)
      try dsimp only
      k_steps
      unfold Hold
      k_dflt (refine' call_cls ?k1 ?k2 ?k3 ?k4 ?k5 ?k6 ?_; (case k1 => k_asm); (case k2 => k_asm); (case k3 => k_asm); (case k4 => k_is); (case k5 => k_is); (case k6 => k_is); k_whole)
      intro lx dl h11 F11 N11 l11 l11'
      refine lexinit_code (w := w) BG F11 XG N11 TG rfl rfl (Nat.lt_of_le_of_lt (m := callerA.depth + 1 + 5) (Nat.add_le_add_left (by first | (with_unfolding_all exact (by decide : (0:Nat) ≤ 5)) | (with_unfolding_all exact (by decide : (1:Nat) ≤ 5)) | (with_unfolding_all exact (by decide : (2:Nat) ≤ 5))) _) (by decide)) l11 l11' ?_
      intro h12 tk12' pb u1 u2 u3 u4 u5 u6 F12 N12 l12
      refine ⟨rfl, ?_⟩
      try dsimp only
      clear F10 N10 F11 N11
      have N13 := news_keep N12
      clear N12
      simp only [List.cons_append, List.nil_append] at N13
      have hz0 : ∀ p ∈ keep, @LT.lt Nat _ p.1 dl := fun p hp => l11 p (.tail _ (.tail _ (List.mem_append_left _ hp)))
      have hz1 : ∀ p ∈ keep, p.1 ≠ dl := all_ne_of_lt hz0
      have hz2 : ∀ p ∈ keep, p.1 ≠ lx := fun p hp => Nat.ne_of_lt (Nat.lt_trans (hz0 p hp) l11')
      have hz3 : ∀ p ∈ keep, p.1 ≠ pb := fun p hp => Nat.ne_of_lt (Nat.lt_trans (hz0 p hp) (Nat.lt_trans l11' l12))
      have hz5 : ∀ p ∈ keep, p.1 ≠ L + 1 + 1 + 1 + 1 + 1 := fun p hp => Nat.ne_of_gt (hk3 p hp (L + 1 + 1 + 1 + 1 + 1, o5) (by k_mem))
      have hz6 : ∀ p ∈ keep, p.1 ≠ L + 1 + 1 + 1 + 1 + 1 + 1 := fun p hp => Nat.ne_of_gt (hk3 p hp (L + 1 + 1 + 1 + 1 + 1 + 1, o6) (by k_mem))
      have hz7 : ∀ p ∈ keep, p.1 ≠ L + 1 + 1 + 1 + 1 + 1 + 1 + 1 := fun p hp => Nat.ne_of_gt (hk3 p hp (L + 1 + 1 + 1 + 1 + 1 + 1 + 1, o7) (by k_mem))
      have hz4 : ∀ p ∈ keep, p.1 ≠ L + 1 + 1 + 1 + 1 := fun p hp => Nat.ne_of_gt (hk3 p hp (L + 1 + 1 + 1 + 1, _) (by k_mem))
      have hy_lf : @LT.lt Nat _ lf dl := l11 (lf, _) (.tail _ (.head _))
      have hy_145 : @LT.lt Nat _ 145 dl := l11 (145, _) (.head _)
      have hy_fx := fun p hp => l11 p (.tail _ (.tail _ (List.mem_append_right _ hp)))
      have hy_Dw : @LT.lt Nat _ Dw dl := hy_fx (Dw, _) (by k_mem)
      have hy_r2 : @LT.lt Nat _ r2 dl := hy_fx (r2, _) (by k_mem)
      have hy_r1 : @LT.lt Nat _ r1 dl := hy_fx (r1, _) (by k_mem)
      have hy_D : @LT.lt Nat _ D dl := hy_fx (D, _) (by k_mem)
      have hy_7 : @LT.lt Nat _ (L + 1 + 1 + 1 + 1 + 1 + 1 + 1) dl := hy_fx (L + 1 + 1 + 1 + 1 + 1 + 1 + 1, o7) (by k_mem)
      have hy_f7 : @Ne Nat (L + 1 + 1 + 1 + 1 + 1 + 1 + 1) lf := hneN (L + 1 + 1 + 1 + 1 + 1 + 1 + 1, _) (by k_mem)
      have hy_f6 : @Ne Nat (L + 1 + 1 + 1 + 1 + 1 + 1) lf := hneN (L + 1 + 1 + 1 + 1 + 1 + 1, _) (by k_mem)
      have hy_f5 : @Ne Nat (L + 1 + 1 + 1 + 1 + 1) lf := hneN (L + 1 + 1 + 1 + 1 + 1, _) (by k_mem)
      have hy_f4 : @Ne Nat (L + 1 + 1 + 1 + 1) lf := hneN (L + 1 + 1 + 1 + 1, _) (by k_mem)
      have hy_f3 : @Ne Nat (L + 1 + 1 + 1) lf := hneN (L + 1 + 1 + 1, _) (by k_mem)
      have hy_f2 : @Ne Nat (L + 1 + 1) lf := hneN (L + 1 + 1, _) (by k_mem)
      have hy_f1 : @Ne Nat (L + 1) lf := hneN (L + 1, _) (by k_mem)
      have hy_r1f : @Ne Nat r1 lf := hneN (r1, _) (by k_mem)
      have hy_r2f : @Ne Nat r2 lf := hneN (r2, _) (by k_mem)
      have hy_Df : @Ne Nat D lf := hneN (D, _) (by k_mem)
      have hy_lx := ltN l11'
      have hy_pb := ltN l12
      have hLat : LexAt w lx dl sx sdx spb sf lf t1 t2 t3 t4 t5 t6 t7 ((lx, instObj 73 dl) :: keep) := ⟨.head _, .tail _ hsx, .tail _ hsdx, hRead.mono fun q hq => .tail _ hq, let ⟨a, b, c, d, h⟩ := hsf; ⟨a, b, c, d, .tail _ h⟩⟩
      clear l11 hy_fx hk3
      k_steps
      unfold Hold
      rename_i hB5 o5x F14 N14 d5x _ _
      have hrsl : (Txt.rstripChars tx0 (Str.ofString "\n")).length ≤ 1000 := Nat.le_trans (rstrip_len _ _) hjl
      obtain ⟨hT1, hT2⟩ := text_read (n := nc) hwsl (fun x hx => (hwa x hx).2) (tx := Txt.rstripChars tx0 (Str.ofString "\n")) (by rw [hG7])
      generalize hTX : Txt.rstripChars tx0 (Str.ofString "\n") = tx at hrsl hT1 hT2 hSg F14
      clear hTX hcar eL hG7 hsum hjl hneN hlf hCH hRead hsx hsdx hsf hys hyl hwsm hnone hneL
      refine Hold.mk ?_
      k_with "r" => (repeat (rename _ => zz; clear_value zz; clear zz)); (rename _ => zz); revert zz
      k_with "c" => (repeat (rename _ => zz; clear_value zz; clear zz)); (rename _ => zz); clear zz
      (iterate 50 k_extra "r"); (iterate 1 k_extra "c"); (iterate 25 k_extra "r"); (iterate 2 k_extra "c"); (iterate 1 k_extra "r"); (iterate 2 k_extra "c"); (iterate 2 k_extra "r"); (iterate 1 k_extra "c"); (iterate 4 k_extra "r"); (iterate 2 k_extra "c"); (iterate 6 k_extra "r"); (iterate 2 k_extra "c"); (iterate 3 k_extra "r"); (iterate 8 k_extra "c"); (iterate 88 k_extra "r"); (iterate 2 k_extra "c"); (iterate 3 k_extra "r"); (iterate 2 k_extra "c"); (iterate 8 k_extra "r"); (iterate 1 k_extra "c"); (iterate 6 k_extra "r"); (iterate 1 k_extra "c"); (iterate 16 k_extra "r")
      repeat (rename _ => zz; first | (clear_value zz; clear zz) | revert zz)
      exact fun h => h.out
  ⟩
end Mine
end
-- lawt7
section
theorem Mine.resetlawt7 : True := by (w_top off; trivial)
open PySem PySem.W PyProof.Rows PyProof.Rows.LCg
set_option Elab.async false
set_option maxRecDepth 100000
set_option maxHeartbeats 8000000
namespace Mine
noncomputable def st_S7 : { P : Prop // Box P → Mine.st_S6.1 } := ⟨_, fun (hX9 : Box _) => by
      k_with "binaryOp Add ref ref" => (refine Hold.mk ?_)
      k_with "compareOp NotEq ref ref" => (refine Hold.mk ?_)
      k_with "om" => with_reducible first | exact Mine.om1 (by assumption) | exact Mine.om4 (by assumption) | exact Mine.om133 (by assumption) (by assumption) (by assumption) | exact Mine.om40 (by assumption) | exact Mine.om43 (by assumption) | exact Mine.om46 (by assumption) | exact Mine.om47 (by assumption) | exact Mine.om50 (by assumption) (by assumption) (by assumption) | exact Mine.om51 (by assumption) | exact Mine.om52 (by assumption) | exact Mine.om33 (by assumption) (by assumption) | exact Mine.om42 (by assumption) (by assumption) | exact Mine.om300 (by assumption) | exact Mine.om2 (by assumption) | exact Mine.om328 (by assumption) | exact Mine.om113 | fail
      intro w s₀ s₁ mg mb fa o cd script ls svs hI h₁ tk₁ o7 o6 o1 hNS o2 d2 d7 d6 G0 TG BG lifted hG0 codeHd L l0 D C oC m₂ oC h tk na nb nc hD7 h6 ta tb tc _ _ _ _ _ _ _ _ fi hfi se hse r1 vs1 n1 h9 tk9 g9 hI1 hr1D _ _ _ q1 q2 hq1 hq2 r2 vs2 n2 h9 tk9 g9 hI2 hb9 hr2D _ _ h10 tk10 r4 vs4 h11 tk11 hI4 _ _ q3 hx0 hx1 hsl hs5 r5 h12 tk12 _ _ _ tn hy0 hy1 Dw h13 wv hwl2 ws hWs hW2 hDwD _ _ _ _ XG hwa hwsl D2 C2 oC ys m₂ oC h tk h6 k5 tx0 _ _ _ _ _ _ nL lf hlfw hlf145 h10 tk10 sx sdx sf spb t1 t2 t3 t4 t5 t6 t7 ps keep hk1 hk2 lx dl h11 h12 tk12' pb u1 u2 u3 u4 u5 u6 l12 hz0 hz1 hz2 hz3 hz5 hz6 hz7 hz4 hy_lf hy_145 hy_Dw hy_r2 hy_r1 hy_D hy_7 hy_f7 hy_f6 hy_f5 hy_f4 hy_f3 hy_f2 hy_f1 hy_r1f hy_r2f hy_Df hy_lx hy_pb hLat hB5 o5x N14 d5x _ _ tx hrsl hT1 hT2 hSg F14
      revert XG; k_fill; intro XG
      unfold Hold
      refine Assign_ListComp_G F14 (by with_unfolding_all rfl) (by with_unfolding_all rfl) (by decide) rfl (by decide) ?_
      k_steps
      unfold Hold
      rename IsRange _ _ _ _ _ _ _ _ => hR
      rename Fr _ _ _ _ => F15
      rename News _ _ _ _ => N15
      refine pyIter_range_K F15 N15 hR (by decide) (n := 6) (by decide) fun I2 h20 F16 N16 hltI2 => ?_
      clear F15 N15 hR
      refine ⟨_, F16, N16, fun D3 C3 oC3 h21 hC3 F17 N17 hltD3 hDC3 => ?_⟩
      clear F16 N16
      obtain ⟨X1, hX1⟩ := ex5 N17
      rw [← hX1] at N17 hltD3 hltI2
      have m_pb : (pb, listOf ([] : List Value).toArray 0) ∈ X1 := hX1 ▸ .head _
      have m_lx : (lx, instObj 73 dl) ∈ X1 := hX1 ▸ .tail _ (.head _)
      have m_5 : (L + 1 + 1 + 1 + 1 + 1, o5x) ∈ X1 := hX1 ▸ (.tail _ (.tail _ (.tail _ (.tail _ (.tail _ (.tail _ (.tail _ (.tail _ (.tail _ (.head _))))))))))
      have m_keep : ∀ q ∈ keep, q ∈ X1 := fun q hq => hX1 ▸ (.tail _ (.tail _ (.tail _ (.tail _ (.tail _ (.tail _ (.tail _ (.tail _ (.tail _ (.tail _ (.tail _ (.tail _ (.tail _ (.tail _ hq))))))))))))))
      have hx_lf : ∀ p ∈ X1, p.1 ≠ lf := by
        rw [hX1]
        repeat' first | exact List.forall_mem_nil _ | exact hk1 | (refine List.forall_mem_cons.mpr ⟨(show @Ne Nat _ _ by omega), ?_⟩)
      have hx_dl : ∀ p ∈ X1, p.1 ≠ dl := by
        rw [hX1]
        repeat' first | exact List.forall_mem_nil _ | exact hz1 | (refine List.forall_mem_cons.mpr ⟨(show @Ne Nat _ _ by omega), ?_⟩)
      have hI2_lf : @LT.lt Nat _ lf I2 := hltI2 (lf, _) (.head _)
      have hI2_dl : @LT.lt Nat _ dl I2 := hltI2 (dl, _) (.tail _ (.head _))
      have hI2_X1 : ∀ p ∈ X1, @LT.lt Nat _ p.1 I2 := fun p hp => hltI2 p (.tail _ (.tail _ hp))
      have hD3_I2 : @LT.lt Nat _ I2 D3 := hltD3 (I2, _) (.head _)
      have hCD3 := ltN hDC3
      have hsl1 := signs_len tx
      have hrd := rdN_ok (signs tx, 1) (signs_one tx)
      refine comp1 rfl rfl (LIt.range rfl (a := 0) (n := 6)) (fun _ _ _ h => h.1) (fun i ys X => ∃ lvs kk uu, X = (lf, listOf (List.toArray lvs) kk) :: (dl, dictOf (lexDict w (rdN (signs tx, 1) i).2 (.ref sx) pb u1 uu u3 u4 u5 u6) 4) :: X1 ∧ StrsAre lvs (rdN (signs tx, 1) i).1 ∧ StrsAre ys (toksN (signs tx, 1) i)) (own₀ := [(I2, _)]) F17 N17 hC3 rfl (fun _ hp => nomatch hp) ?_ (fun p hp => ⟨Nat.ne_of_lt (Nat.lt_trans (hltD3 p hp) hDC3), Nat.ne_of_lt (hltD3 p hp)⟩) hDC3 ⟨_, _, _, rfl, hSg, .nil⟩ (fun i ys X hi h => by obtain ⟨_, _, _, _, _, h⟩ := h; rw [h.length]; simp [toksN]; omega) ?_ ?_
      · intro q hq p hp
        rw [List.mem_singleton.mp hq]
        exact Nat.ne_of_lt (hltI2 p hp)
      · rintro i v ys X own Y oC m₂ h tk E' hi hz11 hz12 hC2 hmk F18 N18 hXY hOY hCY off hd
        refine tnil ?_
        try (refine letQS ?_; intro Q13 s13)
        obtain ⟨_, t, rfl⟩ := hz11
        obtain ⟨lvs, kk, uu, rfl, hSl, hys⟩ := hz12
        clear F17 N17 hC3
        have N19 := news_read N18 hXY hOY
        have hCl := hCY _ (hXY _ (.head _))
        have hCd := hCY _ (hXY _ (.tail _ (.head _)))
        have z_pb : (pb, listOf ([] : List Value).toArray 0) ∈ own ++ X1 := List.mem_append_right _ m_pb
        have z_lx : (lx, instObj 73 dl) ∈ own ++ X1 := List.mem_append_right _ m_lx
        have z_5 : (L + 1 + 1 + 1 + 1 + 1, o5x) ∈ own ++ X1 := List.mem_append_right _ m_5
        have z_keep : ∀ q ∈ keep, q ∈ own ++ X1 := fun q hq => List.mem_append_right _ (m_keep q hq)
        have z_lf : ∀ p ∈ own ++ X1, p.1 ≠ lf := fun p hp => (List.mem_append.mp hp).elim (fun h => (off p h _ (.head _)).symm) (hx_lf p)
        have z_dl : ∀ p ∈ own ++ X1, p.1 ≠ dl := fun p hp => (List.mem_append.mp hp).elim (fun h => (off p h _ (.tail _ (.head _))).symm) (hx_dl p)
        have z_own : ∀ q ∈ own, q ∈ own ++ X1 := fun q hq => List.mem_append_left _ hq
        have z_X1 : ∀ q ∈ X1, q ∈ own ++ X1 := fun q hq => List.mem_append_right _ hq
        generalize hZ : own ++ X1 = Z at N19 z_pb z_lx z_5 z_keep z_lf z_dl z_own z_X1
        clear N18
        k_steps
        unfold Hold
        rename Fr _ _ _ _ => F20
        rename News _ _ _ _ => N20
        obtain ⟨hrl, hr1⟩ := hrd i
        refine wpAny_call (tok_code (w := w) (ln := (rdN (signs tx, 1) i).2) (ls := (rdN (signs tx, 1) i).1) BG F20 XG N20 TG rfl rfl (by decide) (by decide) hLat (List.forall_mem_cons.mpr ⟨.tail _ (.tail _ z_lx), fun q hq => .tail _ (.tail _ (z_keep q hq))⟩) (.tail _ (.tail _ z_pb)) (List.forall_mem_cons.mpr ⟨hCl.1.symm, List.forall_mem_cons.mpr ⟨hCl.2.symm, z_lf⟩⟩) (List.forall_mem_cons.mpr ⟨hCd.1.symm, List.forall_mem_cons.mpr ⟨hCd.2.symm, z_dl⟩⟩) (Nat.ne_of_lt hy_lf) hSl (by have : (signs tx, (1 : Int)).1.length = tx.length := hsl1; omega) hr1 fun lvs' k' t' t2' h' tk' hS' F21 N21 => ?_)
        try dsimp only
        refine TEnd.intro ((lf, listOf (List.toArray lvs') k') :: (dl, dictOf (lexDict w (rdN (signs tx, 1) (i + 1)).2 (.ref sx) pb u1 t2' u3 u4 u5 u6) 4) :: X1) F21 N21 (.tail _ (.tail _ (.head _))) (.tail _ (.tail _ (.tail _ (.head _)))) ?_ (fun q hq => .tail _ (.tail _ (.tail _ (.tail _ (z_own q hq))))) hC2 (fun _ hp => nomatch hp) ?_ ?_ ⟨_, _, _, rfl, hS', by rw [toksN_succ]; exact strs_snoc hys _ _⟩
        · intro p hp
          rcases List.mem_cons.mp hp with rfl | hp
          · exact .head _
          · rcases List.mem_cons.mp hp with rfl | hp
            · exact .tail _ (.head _)
            · exact .tail _ (.tail _ (.tail _ (.tail _ (z_X1 p hp))))
        · intro p hp
          rcases List.mem_cons.mp hp with rfl | hp
          · exact hCl
          · rcases List.mem_cons.mp hp with rfl | hp
            · exact hCd
            · exact hCY p (hXY p (.tail _ (.tail _ hp)))
        · intro q hq p hp
          rcases List.mem_cons.mp hp with rfl | hp
          · have z := off q hq _ (.head _)
            exact z
          · rcases List.mem_cons.mp hp with rfl | hp
            · have z := off q hq _ (.tail _ (.head _))
              exact z
            · exact off q hq p (.tail _ (.tail _ hp))
      · rintro ys m₂ X oC h tk hz14 hC2 F18 N18 hXC
        try (refine letQS ?_; intro Q15 s15)
        obtain ⟨lvs, kk, uu, rfl, hSl, hys⟩ := hz14
        rw [hT2] at N18 hSl hXC
        rw [hT1] at hys
        have hD3X : ∀ p ∈ X1, @LT.lt Nat _ p.1 D3 := fun p hp => hltD3 p (.tail _ (.tail _ (.tail _ hp)))
        have hD3lf : @LT.lt Nat _ lf D3 := hltD3 (lf, _) (.tail _ (.head _))
        have hD3dl : @LT.lt Nat _ dl D3 := hltD3 (dl, _) (.tail _ (.tail _ (.head _)))
        refine CompDoneA.local rfl rfl rfl F18 hC2 N18 (fun p hp => (hXC p hp).1) (Nat.ne_of_gt hDC3) fun h22 tk22 F19 N19 => ?_
        clear F18 N18 hC2 F17 N17 hC3 hXC hltD3 hltI2
        try dsimp only at F19 N19 ⊢
        have hlvs : lvs = [] := by
          cases lvs with
          | nil => rfl
          | cons a b => cases hSl
        subst hlvs
        clear hSl
        rw [hX1] at N19
        clear hx_lf hx_dl hI2_X1 m_pb m_lx m_5 m_keep
        k_steps
        unfold Hold
        rename Fr _ _ _ _ => F20
        rename News _ _ _ _ => N20
        refine add_K (vs := wv) F20 N20 (News.isList N20 (.tail _ (.tail _ (.tail _ (.tail _ (.tail _ (.tail _ (.tail _ (.head _)))))))))  (News.isList N20 (.head _)) (fun Dx h23 F21 N21 hlt21 => ?_) (by rw [sizeLine_eq]; simp only [List.length_cons, List.length_nil]; omega)
        have hDx : @LT.lt Nat _ D3 Dx := hlt21 (D3, _) (.tail _ (.head _))
        clear F20 N20 hlt21; (try clear F19); (try clear N19)
        try dsimp only
        k_steps
        unfold Hold
        rename Fr _ _ _ _ => F20
        rename News _ _ _ _ => N20
        refine ne_strs N20 (.tail _ (.tail _ (.head _))) (.head _) hys (strs_snoc' hW2 _ _) (fun t ht => (List.mem_append.mp ht).elim (fun h => ok_of_word (hwa t h).2) (fun h => by rw [List.mem_singleton.mp h]; decide +kernel)) (by ke_room) ?_
        try dsimp only
        k_steps
        · rename _ ≠ _ => hne0
          exact absurd rfl hne0
        unfold Hold
        rename Fr _ _ _ _ => F21
        rename News _ _ _ _ => N21
        replace N21 := news_tail3 N21
        clear hT1 hT2 hSg hrd hsl1 hys hD3X hD3lf hD3dl hDx hD3_I2 hI2_lf hI2_dl hCD3 hDC3
        refine Hold.mk ?_
        k_with "r" => (repeat (rename _ => zz; clear_value zz; clear zz)); (rename _ => zz); revert zz
        k_with "c" => (repeat (rename _ => zz; clear_value zz; clear zz)); (rename _ => zz); clear zz
        (iterate 4 k_extra "r"); (iterate 1 k_extra "c"); (iterate 2 k_extra "r"); (iterate 3 k_extra "c"); (iterate 13 k_extra "r"); (iterate 1 k_extra "c"); (iterate 1 k_extra "r"); (iterate 1 k_extra "c"); (iterate 1 k_extra "r"); (iterate 8 k_extra "c"); (iterate 1 k_extra "r"); (iterate 1 k_extra "c"); (iterate 38 k_extra "r"); (iterate 1 k_extra "c"); (iterate 27 k_extra "r"); (iterate 1 k_extra "c"); (iterate 1 k_extra "r"); (iterate 1 k_extra "c"); (iterate 135 k_extra "r")
        repeat (rename _ => zz; first | (clear_value zz; clear zz) | revert zz)
        exact fun h => h.out
  ⟩
end Mine
end
-- lawt8
section
theorem Mine.resetlawt8 : True := by (w_top off; trivial)
open PySem PySem.W PyProof.Rows PyProof.Rows.LCg
set_option Elab.async false
set_option maxRecDepth 100000
set_option maxHeartbeats 8000000
namespace Mine
noncomputable def st_S8 : { P : Prop // Box P → Mine.st_S7.1 } := ⟨_, fun (hX9 : Box _) => by
        k_with "om" => with_reducible first | exact Mine.om9 (by assumption) | exact Mine.om15 (by assumption) (by assumption) | exact Mine.om60 (by assumption) | exact Mine.om83 (by assumption) (by assumption) (by assumption) (by assumption) | exact Mine.om122 (by assumption) (by assumption) (by assumption) | exact Mine.om141 (by assumption) | exact Mine.om203 | exact Mine.om242 | exact Mine.om251 (by assumption) | exact Mine.om259 | exact Mine.om270 | exact Mine.om280 | exact Mine.om281 (by assumption) (by assumption) | exact Mine.om290 | fail
        intro w s₀ s₁ mg mb fa o cd script ls svs hI h₁ tk₁ o7 o6 o1 hNS o2 d2 d7 d6 G0 TG BG lifted hG0 codeHd L l0 D C oC m₂ oC h tk na nb nc hD7 h6 ta tb tc _ _ _ _ _ _ _ _ fi hfi se hse r1 vs1 n1 h9 tk9 g9 hI1 hr1D _ _ _ q1 q2 hq1 hq2 r2 vs2 n2 h9 tk9 g9 hI2 hb9 hr2D _ _ h10 tk10 r4 vs4 h11 tk11 hI4 _ _ q3 hx0 hx1 hsl hs5 r5 h12 tk12 _ _ _ tn hy0 hy1 Dw h13 wv hwl2 ws hWs hW2 hDwD _ _ _ _ hwa hwsl D2 C2 oC ys m₂ oC h tk h6 k5 tx0 _ _ _ _ _ lf hlfw hlf145 h10 tk10 sx sdx sf spb t1 t2 t3 t4 t5 t6 t7 ps keep hk1 hk2 lx dl h11 h12 tk12' pb u1 u3 u4 u5 u6 l12 hz0 hz1 hz2 hz3 hz5 hz6 hz7 hz4 hy_lf hy_145 hy_Dw hy_r2 hy_r1 hy_D hy_7 hy_f7 hy_f6 hy_f5 hy_f4 hy_f3 hy_f2 hy_f1 hy_r1f hy_r2f hy_Df hy_lx hy_pb hLat hB5 o5x d5x _ tx XG D3 oC3 X1 hX1 ys m₂ oC h tk kk uu h22 tk22 _ _ h23 F21 tk _ _ N21
        revert XG; k_fill; intro XG
        unfold Hold
        refine wpAny_Assign_Name ?_ (by with_unfolding_all rfl)
        refine ListComp_G F21 (by with_unfolding_all rfl) (by decide) rfl (by decide) ?_
        k_steps
        unfold Hold
        rename Fr _ _ _ _ => F22
        rename News _ _ _ _ => N22
        refine pyIter_list_K F22 N22 (l := Dw) (vs := wv) (k := 0) (.tail _ (.tail _ (.tail _ (.tail _ (.tail _ (.head _)))))) fun I4 oI4 h24 hI4 F23 N23 hltI4 => ?_
        clear F22 N22
        refine ⟨_, F23, N23, fun D4 C4 oC4 h25 hC4 F24 N24 hltD4 hDC4 => ?_⟩
        clear F23 N23
        obtain ⟨X1, hX1⟩ := ex3 N24
        rw [← hX1] at N24 hltD4 hltI4
        have m_Dw : (Dw, listOf wv.toArray 0) ∈ X1 := hX1 ▸ (.tail _ (.tail _ (.tail _ (.tail _ (.tail _ (.head _))))))
        have hD4_I4 : @LT.lt Nat _ I4 D4 := hltD4 (I4, _) (.head _)
        have hCD4 := ltN hDC4
        refine comp1 rfl rfl (LIt.list rfl (l := Dw) (vs := wv) (kl := 0)) (fun _ _ _ h => h.1) (fun i ys X => ∃ TN, X = TN ++ X1 ∧ LeadsAre w TN ys (ws.take i) ∧ ∀ p ∈ TN, ∀ q ∈ X1, @LT.lt Nat _ q.1 p.1) (own₀ := [(I4, oI4)]) F24 N24 hC4 ⟨oI4, rfl, hI4⟩ (fun p hp => by rw [List.mem_singleton.mp hp]; exact m_Dw) ?_ (fun p hp => ⟨Nat.ne_of_lt (Nat.lt_trans (hltD4 p hp) hDC4), Nat.ne_of_lt (hltD4 p hp)⟩) hDC4 ⟨[], rfl, .nil, fun _ hp => nomatch hp⟩ (fun i ys X hi h => by obtain ⟨_, _, h, _⟩ := h; rw [h.length, List.length_take]; omega) ?_ ?_
        · intro q hq p hp
          rw [List.mem_singleton.mp hq]
          exact Nat.ne_of_lt (hltI4 p hp)
        · rintro i v ys X own Y oC m₂ h tk E' hi hz16 hz17 hC2 hmk F25 N25 hXY hOY hCY off hd
          refine tnil ?_
          try (refine letQS ?_; intro Q18 s18)
          obtain ⟨_, hv⟩ := hz16
          obtain ⟨TN, rfl, hLe, hlt9⟩ := hz17
          clear F24 N24 hC4
          obtain ⟨x, tx9, rfl, hxs⟩ := strs_at hW2 hv
          have hxl : x.length < 100 := by have h60 := (wordOk_is (hwa x (List.mem_of_getElem? hxs)).1).1; exact Nat.lt_of_le_of_lt h60 (by decide)
          k_steps
          unfold Hold
          k_dflt (refine' call_cls ?k1 ?k2 ?k3 ?k4 ?k5 ?k6 ?_; (case k1 => k_asm); (case k2 => k_asm); (case k3 => k_asm); (case k4 => k_is); (case k5 => k_is); (case k6 => k_is); k_whole)
          intro wx wd h26 F26 N26 l26 l26'
          refine wsinit_code (w := w) BG F26 XG N26 TG rfl rfl (Nat.lt_of_le_of_lt (m := callerA.depth + 1 + 5) (Nat.add_le_add_left (by first | (with_unfolding_all exact (by decide : (0:Nat) ≤ 5)) | (with_unfolding_all exact (by decide : (1:Nat) ≤ 5)) | (with_unfolding_all exact (by decide : (2:Nat) ≤ 5))) _) (by decide)) l26 l26' hxl ?_
          intro h27 tk27 tl F27 N27 hWs hlt27
          refine ⟨rfl, ?_⟩
          try dsimp only
          refine TEnd.grow tl _ F27 N27 (fun p hp => List.mem_append_right _ hp) (fun p hp => List.mem_append_left _ hp) (fun a ha p hp => Nat.ne_of_lt (hlt27 a ha p hp)) hC2 hXY hOY hCY off hd ⟨tl ++ TN, (List.append_assoc _ _ _).symm, ?_, ?_⟩
          · rw [take_at hxs]
            exact (hLe.mono fun p hp => List.mem_append_right _ hp).snoc (hWs.mono fun p hp => List.mem_append_left _ hp)
          · intro p hp q hq
            rcases List.mem_append.mp hp with hp | hp
            · exact hlt27 p hp q (.tail _ (.tail _ (hXY q (List.mem_append_right _ hq))))
            · exact hlt9 p hp q hq
        · rintro ys m₂ X oC h tk hz19 hC2 F25 N25 hXC
          try (refine letQS ?_; intro Q20 s20)
          obtain ⟨TN, rfl, hLe, hlt9⟩ := hz19
          refine ⟨h, tk, oC, m₂, ys, _, rfl, F25, hC2, N25, fun p hp => (hXC p hp).1, fun h26 F26 N26 => ?_⟩
          have hlw : wv.length = 5 := hwl2
          rw [List.take_of_length_le (by omega)] at hLe
          have hD4X : ∀ p ∈ X1, @LT.lt Nat _ p.1 D4 := fun p hp => hltD4 p (.tail _ hp)
          rw [hX1] at N26 hlt9 hD4X
          replace N26 := news_in16 N26
          have g_lf : ∀ p ∈ TN ++ keep, p.1 ≠ lf := fun p hp => (List.mem_append.mp hp).elim (fun h => Nat.ne_of_gt (hlt9 p h (lf, _) (.head _))) (hk1 p)
          have g_dl : ∀ p ∈ TN ++ keep, p.1 ≠ dl := fun p hp => (List.mem_append.mp hp).elim (fun h => Nat.ne_of_gt (hlt9 p h (dl, _) (.tail _ (.head _)))) (hz1 p)
          have g_pb : ∀ p ∈ TN ++ keep, p.1 ≠ pb := fun p hp => (List.mem_append.mp hp).elim (fun h => Nat.ne_of_gt (hlt9 p h (pb, _) (.tail _ (.tail _ (.head _))))) (hz3 p)
          have g_lx : ∀ p ∈ TN ++ keep, p.1 ≠ lx := fun p hp => (List.mem_append.mp hp).elim (fun h => Nat.ne_of_gt (hlt9 p h (lx, _) (.tail _ (.tail _ (.tail _ (.head _)))))) (hz2 p)
          have g_7 : ∀ p ∈ TN ++ keep, p.1 ≠ L + 1 + 1 + 1 + 1 + 1 + 1 + 1 := fun p hp => (List.mem_append.mp hp).elim (fun h => Nat.ne_of_gt (hlt9 p h (L + 1 + 1 + 1 + 1 + 1 + 1 + 1, _) (.tail _ (.tail _ (.tail _ (.tail _ (.tail _ (.tail _ (.tail _ (.tail _ (.tail _ (.head _)))))))))))) (hz7 p)
          have g_6 : ∀ p ∈ TN ++ keep, p.1 ≠ L + 1 + 1 + 1 + 1 + 1 + 1 := fun p hp => (List.mem_append.mp hp).elim (fun h => Nat.ne_of_gt (hlt9 p h (L + 1 + 1 + 1 + 1 + 1 + 1, _) (.tail _ (.tail _ (.tail _ (.tail _ (.tail _ (.tail _ (.tail _ (.tail _ (.tail _ (.tail _ (.head _))))))))))))) (hz6 p)
          have g_keep : ∀ p ∈ keep, p ∈ TN ++ keep := fun p hp => List.mem_append_right _ hp
          replace hLe := hLe.mono (T' := TN ++ keep) fun p hp => List.mem_append_left _ hp
          generalize TN ++ keep = kp2 at N26 g_lf g_dl g_pb g_lx g_7 g_6 g_keep hLe
          have e_lf : @LT.lt Nat _ lf D4 := hD4X (lf, _) (.head _)
          have e_pb : @LT.lt Nat _ pb D4 := hD4X (pb, _) (.tail _ (.tail _ (.head _)))
          clear hlt9 hD4X F25 N25 hC2 hXC F24 N24 hC4 hltD4 hltI4 m_Dw hX1
          clear hk1 hk2 hz0 hz1 hz2 hz3 hz4 hz5 hz6 hz7
          try dsimp only at F26 N26 ⊢
          replace N26 : News G0 L h26 ((D4, listOf (List.toArray ys) ys.length) :: _) := N26
          k_steps
          unfold Hold
          rename_i hB6 o6x F27 N27 d6x _ _
          refine Hold.mk ?_
          k_with "r" => (repeat (rename _ => zz; clear_value zz; clear zz)); (rename _ => zz); revert zz
          k_with "c" => (repeat (rename _ => zz; clear_value zz; clear zz)); (rename _ => zz); clear zz
          (iterate 18 k_extra "r"); (iterate 3 k_extra "c"); (iterate 5 k_extra "r"); (iterate 2 k_extra "c"); (iterate 1 k_extra "r"); (iterate 2 k_extra "c"); (iterate 3 k_extra "r"); (iterate 3 k_extra "c"); (iterate 81 k_extra "r"); (iterate 1 k_extra "c"); (iterate 12 k_extra "r"); (iterate 1 k_extra "c"); (iterate 3 k_extra "r"); (iterate 1 k_extra "c"); (iterate 2 k_extra "r"); (iterate 1 k_extra "c"); (iterate 19 k_extra "r"); (iterate 1 k_extra "c"); (iterate 2 k_extra "r"); (iterate 1 k_extra "c"); (iterate 64 k_extra "r"); (iterate 1 k_extra "c"); (iterate 21 k_extra "r")
          repeat (rename _ => zz; first | (clear_value zz; clear zz) | revert zz)
          exact fun h => h.out
  ⟩
end Mine
end
-- lawt9
section
theorem Mine.resetlawt9 : True := by (w_top off; trivial)
open PySem PySem.W PyProof.Rows PyProof.Rows.LCg
set_option Elab.async false
set_option maxRecDepth 100000
set_option maxHeartbeats 8000000
namespace Mine
noncomputable def st_S9 : { P : Prop // Box P → Mine.st_S8.1 } := ⟨_, fun (hX9 : Box _) => by
          k_with "om" => with_reducible first | exact Mine.om11 (by assumption) (by assumption) | exact Mine.om24 (by assumption) (by assumption) | fail
          intro w s₀ s₁ mg mb fa o cd script ls svs hI h₁ tk₁ o7 o6 o1 hNS o2 d2 d7 G0 TG BG lifted hG0 codeHd L l0 D C oC m₂ oC h tk na nb nc hD7 h6 ta tb tc _ _ _ _ _ _ _ _ fi hfi se hse r1 vs1 n1 h9 tk9 g9 hI1 hr1D _ _ _ q1 q2 hq1 hq2 r2 vs2 n2 h9 tk9 g9 hI2 hb9 hr2D _ _ h10 tk10 r4 h11 tk11 _ _ q3 hx0 hx1 hsl hs5 r5 h12 tk12 _ _ _ tn hy0 hy1 Dw h13 wv ws hWs hDwD _ _ _ hwa hwsl D2 C2 oC ys m₂ oC h tk h6 tx0 _ _ _ _ _ lf hlfw hlf145 h10 tk10 sx sdx sf spb t1 t2 t3 t4 t5 t6 t7 ps keep lx dl h11 h12 tk12' pb u1 u3 u4 u5 u6 l12 hy_lf hy_145 hy_Dw hy_r2 hy_r1 hy_D hy_7 hy_f7 hy_f6 hy_f5 hy_f4 hy_f3 hy_f2 hy_f1 hy_r1f hy_r2f hy_Df hy_lx hy_pb hLat hB5 o5x d5x _ tx D3 oC3 X1 hX1 ys m₂ oC h tk kk uu h22 tk22 _ _ h23 tk _ XG I4 D4 C4 oC4 X1 ys m₂ oC h tk kp2 g_lf g_dl g_pb g_lx g_7 g_6 g_keep hLe e_lf e_pb hB6 o6x F27 N27 d6x _ _
          revert XG; k_fill; intro XG
          unfold Hold
          refine Assign_ListComp_C F27 (by with_unfolding_all rfl) (by with_unfolding_all rfl) (fun _ => by with_unfolding_all rfl) (fun _ => by with_unfolding_all rfl) rfl (by decide) ?_
          k_steps
          unfold Hold
          rename Fr _ _ _ _ => F28
          rename News _ _ _ _ => N28
          refine pyIter_list_K F28 N28 (l := D4) (vs := ys) (k := ys.length) (.head _) fun I5 oI5 h28 hI5 F29 N29 hltI5 => ?_
          clear F28 N28
          refine ⟨_, F29, N29, fun D5 C5 B5 oC5 h29 hC5 F30 N30 hltD5 hDC5 hCB5 => ?_⟩
          clear F29 N29
          obtain ⟨X1, hX1⟩ := ex4 N30
          rw [← hX1] at N30 hltD5 hltI5
          replace N30 := news_sw34 N30
          have m_D4 : (D4, listOf ys.toArray ys.length) ∈ X1 := hX1 ▸ .head _
          have m_6 : (L + 1 + 1 + 1 + 1 + 1 + 1, o6x) ∈ X1 := hX1 ▸ (.tail _ (.tail _ (.tail _ (.tail _ (.tail _ (.tail _ (.tail _ (.tail _ (.tail _ (.tail _ (.tail _ (.head _))))))))))))
          have m_kp : ∀ p ∈ kp2, p ∈ X1 := fun p hp => hX1 ▸ (.tail _ (.tail _ (.tail _ (.tail _ (.tail _ (.tail _ (.tail _ (.tail _ (.tail _ (.tail _ (.tail _ (.tail _ (.tail _ (.tail _ (.tail _ (.tail _ (.tail _ hp)))))))))))))))))
          have hLe1 := hLe.mono m_kp
          have hyl5 : ys.length = 5 := hLe.length.trans hwsl
          have hD5_I5 : @LT.lt Nat _ I5 D5 := hltD5 (I5, _) (.head _)
          have hCD5 := ltN hDC5
          have hBC5 := ltN hCB5
          have hI5X : ∀ p ∈ X1, @LT.lt Nat _ p.1 I5 := hltI5
          have hD5X : ∀ p ∈ X1, @LT.lt Nat _ p.1 D5 := fun p hp => hltD5 p (.tail _ hp)
          have hok60 : ∀ x ∈ ws, (wsF x).Ok 100 := fun x hx => wsOk (wordOk_is (hwa x hx).1).1
          refine comp1C rfl (fun _ => rfl) (LIt.list rfl (l := D4) (vs := ys) (kl := ys.length)) (fun _ _ _ h => h.1) (fun i zs X => ∃ RN, X = RN ++ X1 ∧ BBAre RN zs ((ws.take i).map fun o => ws.map fun l => lessF l o) ∧ ∀ p ∈ RN, ∀ q ∈ X1, @LT.lt Nat _ q.1 p.1) (own₀ := [(I5, oI5)]) F30 N30 (v₀ := none) rfl hC5 ⟨oI5, rfl, hI5⟩ (fun p hp => by rw [List.mem_singleton.mp hp]; exact m_D4) ?_ ?_ hDC5 (fun p hp => Nat.ne_of_lt (Nat.lt_trans (hD5X p hp) (Nat.lt_trans hDC5 hCB5))) ⟨[], rfl, .nil, fun _ hp => nomatch hp⟩ (fun i ys X hi h => by obtain ⟨_, _, h, _⟩ := h; rw [h.length, List.length_map, List.length_take]; omega) ?_ ?_
          · intro q hq p hp
            rw [List.mem_singleton.mp hq]
            rcases List.mem_cons.mp hp with rfl | hp
            · exact Nat.ne_of_gt (Nat.lt_trans hD5_I5 (Nat.lt_trans hDC5 hCB5))
            · exact Nat.ne_of_lt (hI5X p hp)
          · intro p hp
            rcases List.mem_append.mp hp with hp | hp
            · rw [List.mem_singleton.mp hp]
              exact ⟨Nat.ne_of_lt (Nat.lt_trans hD5_I5 hDC5), Nat.ne_of_lt hD5_I5⟩
            · rcases List.mem_cons.mp hp with rfl | hp
              · exact ⟨Nat.ne_of_gt hCB5, Nat.ne_of_gt (Nat.lt_trans hDC5 hCB5)⟩
              · exact ⟨Nat.ne_of_lt (Nat.lt_trans (hD5X p hp) hDC5), Nat.ne_of_lt (hD5X p hp)⟩
          · rintro i v zs X own Y oC oB m₂ h tk E' hi hz21 hz22 hC2 hoB F31 N31 hBY hXY hOY hCY off hXB hd
            refine tnil ?_
            try (refine letQS ?_; intro Q23 s23)
            obtain ⟨_, hv⟩ := hz21
            obtain ⟨RN, rfl, hBB, hlt9⟩ := hz22
            clear F30 N30 hC5
            obtain ⟨a9, x9, rfl, hxs, hWa⟩ := hLe1.at hv
            have yX1 : ∀ p ∈ X1, p ∈ Y := fun p hp => hXY p (List.mem_append_right _ hp)
            have y_6 := yX1 _ m_6
            have y_D4 := yX1 _ m_D4
            refine ListComp_G F31 (by with_unfolding_all rfl) (by decide) rfl (by decide) ?_
            k_steps
            unfold Hold
            rename Fr _ _ _ _ => F32
            rename News _ _ _ _ => N32
            refine pyIter_list_K F32 N32 (l := D4) (vs := ys) (k := ys.length) (.tail _ (.tail _ y_D4)) fun I6 oI6 h30 hI6 F33 N33 hltI6 => ?_
            clear F32 N32
            refine ⟨_, F33, N33, fun D6 C6 oC6 h31 hC6 F34 N34 hltD6 hDC6 => ?_⟩
            clear F33 N33
            obtain ⟨Z, hZ⟩ := ex3 N34
            rw [← hZ] at N34 hltD6 hltI6
            have w_D4 : (D4, listOf ys.toArray ys.length) ∈ Z := hZ ▸ (.tail _ (.tail _ y_D4))
            have w_B : (B5, oB) ∈ Z := hZ ▸ (.tail _ (.tail _ hBY))
            have w_X1 : ∀ p ∈ X1, p ∈ Z := fun p hp => hZ ▸ (.tail _ (.tail _ (yX1 p hp)))
            have hD6_I6 : @LT.lt Nat _ I6 D6 := hltD6 (I6, _) (.head _)
            have hD6Z : ∀ p ∈ Z, @LT.lt Nat _ p.1 D6 := fun p hp => hltD6 p (.tail _ hp)
            have hokx := hok60 x9 (List.mem_of_getElem? hxs)
            refine comp1 rfl rfl (LIt.list rfl (l := D4) (vs := ys) (kl := ys.length)) (fun _ _ _ h => h.1) (fun j us X => X = Z ∧ us = ((ws.take j).map fun l => lessF l x9).map Value.bool) (own₀ := [(I6, oI6)]) F34 N34 hC6 ⟨oI6, rfl, hI6⟩ (fun p hp => by rw [List.mem_singleton.mp hp]; exact w_D4) (fun q hq p hp => by rw [List.mem_singleton.mp hq]; exact Nat.ne_of_lt (hltI6 p hp)) (fun p hp => ⟨Nat.ne_of_lt (Nat.lt_trans (hltD6 p hp) hDC6), Nat.ne_of_lt (hltD6 p hp)⟩) hDC6 ⟨rfl, rfl⟩ (fun i ys X hi h => by rw [h.2, List.length_map, List.length_map, List.length_take]; omega) ?_ ?_
            · rintro j v2 us X own2 Y2 oC7 m7 h tk E2 hj hz24 hz25 hC7 hmk7 F35 N35 hXY2 hOY2 hCY2 off2 hd2
              refine tnil ?_
              try (refine letQS ?_; intro Q26 s26)
              obtain ⟨_, hv2⟩ := hz24
              obtain ⟨rfl, rfl⟩ := hz25
              clear F34 N34 hC6
              obtain ⟨b9, y9, rfl, hys9, hWb⟩ := hLe1.at hv2
              have hoky := hok60 y9 (List.mem_of_getElem? hys9)
              have u_B := hXY2 _ w_B
              have u_a : WsIn w Y2 a9 x9 := hWa.mono fun p hp => hXY2 p (w_X1 p hp)
              have u_b : WsIn w Y2 b9 y9 := hWb.mono fun p hp => hXY2 p (w_X1 p hp)
              refine WsIn.two u_b ?_
              intro _ _ _ _ _ _ _ _ _ _ _ u_b1 u_b2
              k_steps
              unfold Hold
              rename Fr _ _ _ _ => F36
              rename News _ _ _ _ => N36
              refine wpAny_call (less_code (w := w) BG F36 XG N36 TG rfl rfl (by decide) (u_b.mono fun p hp => .tail _ (.tail _ hp)) hoky (u_a.mono fun p hp => .tail _ (.tail _ hp)) hokx fun h' tk' F37 N37 => ?_)
              try dsimp only
              refine TEnd.grow [] _ F37 N37 (fun p hp => hp) (fun _ hp => nomatch hp) (fun _ hp => nomatch hp) hC7 hXY2 hOY2 hCY2 off2 hd2 ⟨rfl, ?_⟩
              rw [take_at hys9]
              simp only [List.map_append, List.map_cons, List.map_nil, Option.toList]
            · rintro us m7 X7 oC7 h tk hz27 hC7 F35 N35 hXC7
              try (refine letQS ?_; intro Q28 s28)
              obtain ⟨rfl, rfl⟩ := hz27
              refine ⟨h, tk, oC7, m7, _, _, rfl, F35, hC7, N35, fun p hp => (hXC7 p hp).1, fun h6 F36 N36 => ?_⟩
              rw [List.take_of_length_le (by omega)] at N36
              have eY : ∀ p ∈ (C5, oC) :: (D5, lst zs) :: Y, p ∈ X7 := fun p hp => hZ ▸ hp
              have hlD6 : ∀ p ∈ (C5, oC) :: (D5, lst zs) :: Y, @LT.lt Nat _ p.1 D6 := fun p hp => hD6Z p (eY p hp)
              refine TEnd.intro ((B5, oB) :: (D6, listOf (List.toArray ((ws.map fun l => lessF l x9).map Value.bool)) ((ws.map fun l => lessF l x9).map Value.bool).length) :: (RN ++ X1)) F36 N36 (.tail _ (eY _ (.head _))) (.tail _ (eY _ (.tail _ (.head _)))) ?_ (fun q hq => .tail _ (eY q (.tail _ (.tail _ (hOY q hq))))) hC2 (fun p hp => .tail _ (.tail _ (hd p hp))) ?_ ?_ ⟨(D6, _) :: (RN ++ X1), rfl, ?_, (D6, _) :: RN, rfl, ?_, ?_⟩
              · intro p hp
                rcases List.mem_cons.mp hp with rfl | hp
                · exact .tail _ (eY _ (.tail _ (.tail _ hBY)))
                · rcases List.mem_cons.mp hp with rfl | hp
                  · exact .head _
                  · exact .tail _ (eY _ (.tail _ (.tail _ (hXY p hp))))
              · intro p hp
                rcases List.mem_cons.mp hp with rfl | hp
                · exact hCY _ hBY
                · rcases List.mem_cons.mp hp with rfl | hp
                  · exact ⟨Nat.ne_of_gt (hlD6 (C5, _) (.head _)), Nat.ne_of_gt (hlD6 (D5, _) (.tail _ (.head _)))⟩
                  · exact hCY p (hXY p hp)
              · intro q hq p hp
                rcases List.mem_cons.mp hp with rfl | hp
                · exact off q hq (B5, oB) (.head _)
                · rcases List.mem_cons.mp hp with rfl | hp
                  · exact Nat.ne_of_gt (hlD6 q (.tail _ (.tail _ (hOY q hq))))
                  · exact off q hq p (.tail _ hp)
              · refine List.forall_mem_cons.mpr ⟨Nat.ne_of_gt (hlD6 (B5, _) (.tail _ (.tail _ hBY))), hXB⟩
              · rw [take_at hxs, List.map_append]
                exact (hBB.mono fun p hp => .tail _ hp).snoc (.head _)
              · refine List.forall_mem_cons.mpr ⟨fun q hq => hlD6 q (.tail _ (.tail _ (yX1 q hq))), hlt9⟩
          · rintro zs m₂ X oC oB h tk hz29 hC2 F31 N31 hXC
            try (refine letQS ?_; intro Q30 s30)
            obtain ⟨RN, rfl, hBB, hlt9⟩ := hz29
            have hll : (List.map (fun o => List.map (fun l => lessF l o) ws) (List.take ys.length ws)) = ws.map fun o => ws.map fun l => lessF l o := by rw [List.take_of_length_le (by omega)]
            rw [hll] at hBB
            refine CompDoneA.local rfl rfl rfl F31 hC2 N31 (fun p hp => (hXC p hp).1) (Nat.ne_of_gt hDC5) fun h32 tk32 F32 N32 => ?_
            have e_D5 : @LT.lt Nat _ D4 D5 := hD5X _ m_D4
            rw [hX1] at N32 hlt9 hD5X
            have e_D5lf : @LT.lt Nat _ lf D5 := hD5X (lf, _) (.tail _ (.head _))
            have e_D5pb : @LT.lt Nat _ pb D5 := hD5X (pb, _) (.tail _ (.tail _ (.tail _ (.head _))))
            replace N32 := news_in17 N32
            have g2_lf : ∀ p ∈ RN ++ kp2, p.1 ≠ lf := fun p hp => (List.mem_append.mp hp).elim (fun h => Nat.ne_of_gt (hlt9 p h (lf, _) (.tail _ (.head _)))) (g_lf p)
            have g2_dl : ∀ p ∈ RN ++ kp2, p.1 ≠ dl := fun p hp => (List.mem_append.mp hp).elim (fun h => Nat.ne_of_gt (hlt9 p h (dl, _) (.tail _ (.tail _ (.head _))))) (g_dl p)
            have g2_pb : ∀ p ∈ RN ++ kp2, p.1 ≠ pb := fun p hp => (List.mem_append.mp hp).elim (fun h => Nat.ne_of_gt (hlt9 p h (pb, _) (.tail _ (.tail _ (.tail _ (.head _)))))) (g_pb p)
            have g2_7 : ∀ p ∈ RN ++ kp2, p.1 ≠ L + 1 + 1 + 1 + 1 + 1 + 1 + 1 := fun p hp => (List.mem_append.mp hp).elim (fun h => Nat.ne_of_gt (hlt9 p h (L + 1 + 1 + 1 + 1 + 1 + 1 + 1, _) (.tail _ (.tail _ (.tail _ (.tail _ (.tail _ (.tail _ (.tail _ (.tail _ (.tail _ (.tail _ (.head _))))))))))))) (g_7 p)
            have g2_keep : ∀ p ∈ keep, p ∈ RN ++ kp2 := fun p hp => List.mem_append_right _ (g_keep p hp)
            have hBB2 := hBB.mono (T' := RN ++ kp2) fun p hp => List.mem_append_left _ hp
            have hLe2 := hLe.mono (T' := RN ++ kp2) fun p hp => List.mem_append_right _ hp
            clear hlt9 F31 N31 hC2 hXC F30 N30 hC5 hLe1 hD5X hltD5 hltI5 hI5X m_D4 m_6 m_kp hX1 hBB hLe g_lf g_dl g_pb g_lx g_7 g_6 g_keep
            generalize RN ++ kp2 = kp3 at N32 g2_lf g2_dl g2_pb g2_7 g2_keep hBB2 hLe2
            try dsimp only at F32 N32 ⊢
            replace N32 : News G0 L h32 ((D5, listOf (List.toArray zs) zs.length) :: _) := N32
            k_steps
            k_with "r" => (repeat (rename _ => zz; clear_value zz; clear zz)); (rename _ => zz); revert zz
            k_with "c" => (repeat (rename _ => zz; clear_value zz; clear zz)); (rename _ => zz); clear zz
            (iterate 25 k_extra "r"); (iterate 4 k_extra "c"); (iterate 2 k_extra "r"); (iterate 4 k_extra "c"); (iterate 3 k_extra "r"); (iterate 3 k_extra "c"); (iterate 108 k_extra "r"); (iterate 1 k_extra "c"); (iterate 112 k_extra "r")
            repeat (rename _ => zz; first | (clear_value zz; clear zz) | revert zz)
            exact fun h => h.out
  ⟩
end Mine
end
-- lawt10
section
theorem Mine.resetlawt10 : True := by (w_top off; trivial)
open PySem PySem.W PyProof.Rows PyProof.Rows.LCg
set_option Elab.async false
set_option maxRecDepth 100000
set_option maxHeartbeats 8000000
namespace Mine
noncomputable def st_S10 : { P : Prop // Box P → Mine.st_S9.1 } := ⟨_, fun (hX9 : Box _) => by
            k_with "om" => with_reducible first | exact Mine.om36 | fail
            intro w s₀ s₁ mg mb fa o cd script ls svs hI h₁ tk₁ o7 o6 o1 hNS o2 d2 d7 G0 TG BG lifted hG0 codeHd L l0 D C oC m₂ oC h tk na nb nc hD7 h6 ta tb tc _ _ _ _ _ _ _ _ fi hfi se hse r1 vs1 n1 h9 tk9 g9 hI1 hr1D _ _ _ q1 q2 hq1 hq2 r2 vs2 n2 h9 tk9 g9 hI2 hb9 hr2D _ _ h10 tk10 r4 h11 tk11 _ _ q3 hx0 hx1 hsl hs5 r5 h12 tk12 _ _ _ tn hy0 hy1 Dw h13 wv ws hWs hDwD _ _ _ hwsl D2 C2 oC ys m₂ oC h tk h6 tx0 _ _ _ _ _ lf hlfw hlf145 h10 tk10 sx sdx sf spb t1 t2 t3 t4 t5 t6 t7 ps keep lx dl h11 h12 tk12' pb u1 u3 u4 u5 u6 l12 hy_lf hy_145 hy_Dw hy_r2 hy_r1 hy_D hy_7 hy_f7 hy_f6 hy_f5 hy_f4 hy_f3 hy_f2 hy_f1 hy_r1f hy_r2f hy_Df hy_lx hy_pb hLat hB5 o5x d5x _ tx D3 oC3 X1 hX1 ys m₂ oC h tk kk uu h22 tk22 _ _ h23 tk _ I4 D4 C4 oC4 X1 ys m₂ oC h tk kp2 e_lf e_pb hB6 o6x d6x _ XG I5 D5 C5 B5 X1 hyl5 zs m₂ oC oB h tk RN hll h32 tk32 F32 e_D5 e_D5lf e_D5pb kp3 g2_lf g2_dl g2_pb g2_7 g2_keep hBB2 hLe2 N32 _ _
            revert XG; k_fill; intro XG
            unfold Hold
            refine ListComp_G F32 (by with_unfolding_all rfl) (by decide) rfl (by decide) ?_
            k_steps
            unfold Hold
            rename Fr _ _ _ _ => F33
            rename News _ _ _ _ => N33
            refine pyIter_list_K F33 N33 (l := D5) (vs := zs) (k := zs.length) (.head _) fun I6 oI6 h33 hI6 F34 N34 hltI6 => ?_
            clear F33 N33
            refine ⟨_, F34, N34, fun D6 C6 oC6 h34 hC6 F35 N35 hltD6 hDC6 => ?_⟩
            clear F34 N34
            obtain ⟨X1, hX1⟩ := ex3 N35
            rw [← hX1] at N35 hltD6 hltI6
            have m_D5 : (D5, listOf zs.toArray zs.length) ∈ X1 := hX1 ▸ .head _
            have m_kp : ∀ p ∈ kp3, p ∈ X1 := fun p hp => hX1 ▸ (.tail _ (.tail _ (.tail _ (.tail _ (.tail _ (.tail _ (.tail _ (.tail _ (.tail _ (.tail _ (.tail _ (.tail _ (.tail _ (.tail _ (.tail _ (.tail _ (.tail _ (.tail _ hp))))))))))))))))))
            have hBB3 := hBB2.mono m_kp
            have hD6_I6 : @LT.lt Nat _ I6 D6 := hltD6 (I6, _) (.head _)
            have hD6X : ∀ p ∈ X1, @LT.lt Nat _ p.1 D6 := fun p hp => hltD6 p (.tail _ hp)
            refine compIt_start (own := [(I6, oI6)]) (X := X1) rfl (LIt.list rfl (l := D5) (vs := zs) (kl := zs.length)) (fun p hp => N35 p (.tail _ (.tail _ hp))) ⟨oI6, rfl, hI6⟩ ?_
            refine compIt_more rfl rfl (fun _ => rfl) (LIt.list rfl (l := D5) (vs := zs) (kl := zs.length)) (fun i us _ X => X = X1 ∧ us = []) (own₀ := [(I6, oI6)]) F35 N35 hC6 ⟨oI6, rfl, hI6⟩ (fun p hp => by rw [List.mem_singleton.mp hp]; exact m_D5) ?_ ?_ ?_ ⟨rfl, rfl⟩ ?_ ?_
            · intro q hq p hp
              rw [List.mem_singleton.mp hq]
              exact Nat.ne_of_lt (hltI6 p hp)
            · intro p hp
              have z := hD6X p hp
              exact ⟨Nat.ne_of_lt (Nat.lt_trans z hDC6), Nat.ne_of_lt z⟩
            · intro q hq
              rw [List.mem_singleton.mp hq]
              exact ⟨Nat.ne_of_lt (Nat.lt_trans hD6_I6 hDC6), Nat.ne_of_lt hD6_I6⟩
            · clear F35 N35 hC6
              rintro i v ext us m₂ X own oC h tk E' hi hz31 hz32 hC F36 N36 hd hX hoC off hlt
              try (refine letQS ?_; intro Q33 s33)
              obtain ⟨rfl, hv⟩ := hz31
              obtain ⟨rfl, rfl⟩ := hz32
              obtain ⟨a, n, bs, rfl, hbs, hm⟩ := hBB3.at hv
              rw [List.nil_append] at N36
              have yX : ∀ p ∈ X, p ∈ X ++ own := fun p hp => List.mem_append_left _ hp
              have yO : ∀ p ∈ own, p ∈ X ++ own := fun p hp => List.mem_append_right _ hp
              have hYC : ∀ p ∈ X ++ own, p.1 ≠ C6 ∧ p.1 ≠ D6 := fun p hp => (List.mem_append.mp hp).elim (hX p) (hoC p)
              have ya := yX _ hm
              generalize hY : X ++ own = Y at N36 yX yO hYC ya
              refine asgC' rfl rfl F36 N36 hC ?_ ?_
              · intro p hp
                rcases List.mem_cons.mp hp with rfl | hp
                · exact Nat.ne_of_lt hDC6
                · exact (hYC p hp).1
              intro oC2 m2 h10 tk10 hC2 hmo _ F37 N37
              clear F36 N36 hC
              k_steps
              unfold Hold
              rename Fr _ _ _ _ => F38
              rename News _ _ _ _ => N38
              refine pyIter_list_K F38 N38 (l := a) (vs := bs.map Value.bool) (k := n) (.tail _ (.tail _ ya)) fun I7 oI7 h11 hI7 F39 N39 hltI7 => ?_
              clear F38 N38
              have hI7C : @LT.lt Nat _ C6 I7 := hltI7 _ (.head _)
              have hI7D : @LT.lt Nat _ D6 I7 := hltI7 _ (.tail _ (.head _))
              have hI7Y : ∀ p ∈ Y, @LT.lt Nat _ p.1 I7 := fun p hp => hltI7 p (.tail _ (.tail _ hp))
              refine compIt_start (own := [(I7, oI7)]) (X := (C6, oC2) :: (D6, lst []) :: Y) rfl (LIt.list rfl (l := a) (vs := bs.map Value.bool) (kl := n)) N39 ⟨oI7, rfl, hI7⟩ ?_
              refine compIt_last rfl rfl (LIt.list rfl (l := a) (vs := bs.map Value.bool) (kl := n)) (fun j us _ X => X = Y ∧ us = []) (own₀ := [(I7, oI7)]) (X₀ := Y) F39 (fun p hp => N39 p ?_) hC2 ⟨oI7, rfl, hI7⟩ (fun p hp => by rw [List.mem_singleton.mp hp]; exact ya) ?_ hYC ?_ (Nat.ne_of_gt hDC6) ⟨rfl, rfl⟩ (fun _ _ _ _ h => by rw [h.2]; exact Nat.zero_le _) ?_ ?_
              · rcases List.mem_cons.mp hp with rfl | hp
                · exact .tail _ (.head _)
                · rcases List.mem_cons.mp hp with rfl | hp
                  · exact .tail _ (.tail _ (.head _))
                  · rcases List.mem_cons.mp hp with rfl | hp
                    · exact .head _
                    · exact .tail _ (.tail _ (.tail _ hp))
              · intro q hq p hp
                rw [List.mem_singleton.mp hq]
                exact Nat.ne_of_lt (hI7Y p hp)
              · intro q hq
                rw [List.mem_singleton.mp hq]
                exact ⟨Nat.ne_of_gt hI7C, Nat.ne_of_gt hI7D⟩
              · clear F39 N39 hC2
                rintro j v2 ext us m₃ X3 own3 oC3 h12 tk12 E3 hj hz34 hz35 hC3 F40 N40 hd3 hX3 hoC3 off3 hlt3
                try (refine letQS ?_; intro Q36 s36)
                obtain ⟨rfl, hv2⟩ := hz34
                obtain ⟨rfl, rfl⟩ := hz35
                obtain ⟨b, rfl⟩ : ∃ b, v2 = Value.bool b := by
                  rw [List.getElem?_map] at hv2
                  cases hb : bs[j]? with
                  | none => rw [hb] at hv2; cases hv2
                  | some b => rw [hb] at hv2; exact ⟨b, (Option.some.inj hv2).symm⟩
                rw [List.nil_append] at N40
                have vX : ∀ p ∈ X3, p ∈ X3 ++ own3 := fun p hp => List.mem_append_left _ hp
                have vO : ∀ p ∈ own3, p ∈ X3 ++ own3 := fun p hp => List.mem_append_right _ hp
                have hVC : ∀ p ∈ X3 ++ own3, p.1 ≠ C6 ∧ p.1 ≠ D6 := fun p hp => (List.mem_append.mp hp).elim (hX3 p) (hoC3 p)
                generalize hV : X3 ++ own3 = V at N40 vX vO hVC
                refine asgC' rfl rfl F40 N40 hC3 ?_ ?_
                · intro p hp
                  rcases List.mem_cons.mp hp with rfl | hp
                  · exact Nat.ne_of_lt hDC6
                  · exact (hVC p hp).1
                intro oC4 m4' h13 tk13 hC4 hmp hmr4 F41 N41
                clear F40 N40 hC3
                refine tests_one ?_
                cases b <;> k_steps
                all_goals (rename Fr _ _ _ _ => F42; rename News _ _ _ _ => N42; exact TEnd.intro X3 F42 N42 (.head _) (.tail _ (.head _)) (fun p hp => .tail _ (.tail _ (vX p hp))) (fun p hp => .tail _ (.tail _ (vO p hp))) hC4 hd3 hX3 off3 ⟨rfl, rfl⟩)
              · rintro us m₃ X3 oC3 h12 tk12 hz37 hC3 F40 N40 hX3
                try (refine letQS ?_; intro Q38 s38)
                obtain ⟨rfl, rfl⟩ := hz37
                exact ⟨⟨_, rfl⟩, [], TEnd.intro X F40 N40 (.head _) (.tail _ (.head _)) (fun p hp => .tail _ (.tail _ (yX p hp))) (fun p hp => .tail _ (.tail _ (yO p hp))) hC3 hd hX off ⟨rfl, rfl⟩⟩
            · rintro us m₂ X oC h tk hz39 hC F36 N36 hX
              try (refine letQS ?_; intro Q40 s40)
              obtain ⟨rfl, rfl⟩ := hz39
              refine ⟨h, tk, oC, m₂, _, _, rfl, F36, hC, N36, fun p hp => (hX p hp).1, fun h35 F37 N37 => ?_⟩
              rw [hX1] at N37
              clear F35 N35 hC6 F36 N36 hC hX hltD6 hltI6 hBB3 hD6X m_D5 m_kp hX1
              try dsimp only at F37 N37 ⊢
              replace N37 : News G0 L h35 ((D6, listOf (List.toArray ([] : List Value)) 0) :: _) := N37
              k_steps
              unfold Hold
              rename Fr _ _ _ _ => F38
              rename News _ _ _ _ => N38
              refine ne_strs (ts := []) N38 (.tail _ (.head _)) (.head _) .nil .nil (fun _ h => nomatch h) (by ke_room) ?_
              try dsimp only
              k_steps
              unfold Hold
              rename Fr _ _ _ _ => F40
              rename News _ _ _ _ => N40
              replace N40 := news_tail2 N40
              refine Hold.mk ?_
              k_with "r" => (repeat (rename _ => zz; clear_value zz; clear zz)); (rename _ => zz); revert zz
              k_with "c" => (repeat (rename _ => zz; clear_value zz; clear zz)); (rename _ => zz); clear zz
              (iterate 3 k_extra "r"); (iterate 1 k_extra "c"); (iterate 3 k_extra "r"); (iterate 1 k_extra "c"); (iterate 5 k_extra "r"); (iterate 4 k_extra "c"); (iterate 3 k_extra "r"); (iterate 1 k_extra "c"); (iterate 44 k_extra "r"); (iterate 1 k_extra "c"); (iterate 19 k_extra "r"); (iterate 1 k_extra "c"); (iterate 34 k_extra "r"); (iterate 2 k_extra "c"); (iterate 15 k_extra "r"); (iterate 2 k_extra "c"); (iterate 26 k_extra "r"); (iterate 1 k_extra "c"); (iterate 8 k_extra "r"); (iterate 1 k_extra "c"); (iterate 11 k_extra "r"); (iterate 2 k_extra "c"); (iterate 82 k_extra "r")
              repeat (rename _ => zz; first | (clear_value zz; clear zz) | revert zz)
              exact fun h => h.out
  ⟩
end Mine
end
-- lawt11
section
theorem Mine.resetlawt11 : True := by (w_top off; trivial)
open PySem PySem.W PyProof.Rows PyProof.Rows.LCg
set_option Elab.async false
set_option maxRecDepth 100000
set_option maxHeartbeats 8000000
namespace Mine
noncomputable def st_S11 : { P : Prop // Box P → Mine.st_S10.1 } := ⟨_, fun (hX9 : Box _) => by
              k_with "om" => with_reducible first | exact Mine.om5 (by assumption) | exact Mine.om28 (by assumption) | exact Mine.om11 (by assumption) (by assumption) | exact Mine.om32 | exact Mine.om58 (by assumption) (by assumption) | exact Mine.om199 | exact Mine.om206 (by assumption) | exact Mine.om24 (by assumption) (by assumption) | exact Mine.om212 | exact Mine.om218 | exact Mine.om98 (by assumption) | exact Mine.om39 | exact Mine.om228 | exact Mine.om246 | exact Mine.om248 | exact Mine.om115 | exact Mine.om167 | exact Mine.om120 | fail
              intro w s₀ s₁ mg mb fa o cd script ls svs hI h₁ tk₁ o7 o6 o1 hNS o2 d2 d7 G0 TG BG lifted hG0 codeHd L l0 D C oC m₂ oC h tk na nb nc hD7 h6 ta tb tc _ _ _ _ _ _ _ _ fi hfi se hse r1 vs1 n1 h9 tk9 g9 hI1 hr1D _ _ _ q1 q2 hq1 hq2 r2 vs2 n2 h9 tk9 g9 hI2 hb9 hr2D _ _ r4 h11 tk11 _ _ q3 hx0 hx1 hsl hs5 r5 tk12 _ _ _ tn hy0 hy1 Dw wv ws hWs hDwD _ _ _ hwsl D2 C2 oC ys m₂ oC h tk h6 tx0 _ _ _ _ _ lf hlfw hlf145 sx sdx sf spb t1 t2 t3 t4 t5 t6 t7 ps keep lx dl tk12' pb u1 u3 u4 u5 u6 l12 hy_lf hy_145 hy_Dw hy_r2 hy_r1 hy_D hy_7 hy_f7 hy_f6 hy_f5 hy_f4 hy_f3 hy_f2 hy_f1 hy_r1f hy_r2f hy_Df hy_lx hy_pb hLat hB5 o5x d5x _ tx D3 X1 hX1 ys m₂ oC h tk kk uu h22 tk22 _ _ h23 tk _ I4 D4 C4 X1 ys m₂ oC h tk kp2 e_lf e_pb hB6 o6x d6x _ I5 D5 C5 B5 X1 hyl5 zs m₂ oC oB h tk RN hll h32 tk32 e_D5 e_D5lf e_D5pb kp3 g2_lf g2_dl g2_pb g2_7 g2_keep hBB2 hLe2 _ XG I6 oI6 hI6 D6 C6 m₂ X oC h tk _ _ F40 _ _ N40
              revert XG; k_fill; intro XG
              unfold Hold
              refine wpAny_Assign_Name ?_ (by with_unfolding_all rfl)
              refine ListComp_C F40 (by with_unfolding_all rfl) (fun _ => by with_unfolding_all rfl) (fun _ => by with_unfolding_all rfl) rfl (by decide) ?_
              k_steps
              unfold Hold
              rename Fr _ _ _ _ => F41
              rename News _ _ _ _ => N41
              refine pyIter_list_K F41 N41 (l := D5) (vs := zs) (k := zs.length) (.head _) fun I7 oI7 h36 hI7 F42 N42 hltI7 => ?_
              clear F41 N41
              refine ⟨_, F42, N42, fun D7 C7 B7 oC7 h37 hC7 F43 N43 hltD7 hDC7 hCB7 => ?_⟩
              clear F42 N42
              obtain ⟨X1, hX1⟩ := ex4 N43
              rw [← hX1] at N43 hltD7 hltI7
              replace N43 := news_sw34 N43
              have m_D5 : (D5, listOf zs.toArray zs.length) ∈ X1 := hX1 ▸ .head _
              have m_2 : (L + 1 + 1, o2) ∈ X1 := hX1 ▸ (.tail _ (.tail _ (.tail _ (.tail _ (.tail _ (.tail _ (.tail _ (.tail _ (.tail _ (.tail _ (.tail _ (.tail _ (.tail _ (.tail _ (.tail _ (.tail _ (.head _)))))))))))))))))
              have m_kp : ∀ p ∈ kp3, p ∈ X1 := fun p hp => hX1 ▸ (.tail _ (.tail _ (.tail _ (.tail _ (.tail _ (.tail _ (.tail _ (.tail _ (.tail _ (.tail _ (.tail _ (.tail _ (.tail _ (.tail _ (.tail _ (.tail _ (.tail _ (.tail _ hp))))))))))))))))))
              have hBB3 := hBB2.mono m_kp
              have hzl5 : zs.length = 5 := hBB2.length.trans (by rw [List.length_map]; exact hwsl)
              have hD7_I7 : @LT.lt Nat _ I7 D7 := hltD7 (I7, _) (.head _)
              have hCD7 := ltN hDC7
              have hBC7 := ltN hCB7
              have hD7X : ∀ p ∈ X1, @LT.lt Nat _ p.1 D7 := fun p hp => hltD7 p (.tail _ hp)
              refine comp1C rfl (fun _ => rfl) (LIt.list rfl (l := D5) (vs := zs) (kl := zs.length)) (fun _ _ _ h => h.1) (fun i us X => ∃ RN, X = RN ++ X1 ∧ LLAre RN us (((ws.map fun o => ws.map fun l => lessF l o).take i).map fun bs => rowN bs 5) ∧ (∀ p ∈ RN, ∀ q ∈ X1, @LT.lt Nat _ q.1 p.1)) (own₀ := [(I7, oI7)]) F43 N43 (v₀ := none) rfl hC7 ⟨oI7, rfl, hI7⟩ (fun p hp => by rw [List.mem_singleton.mp hp]; exact m_D5) ?_ ?_ hDC7 (fun p hp => Nat.ne_of_lt (Nat.lt_trans (hD7X p hp) (Nat.lt_trans hDC7 hCB7))) ⟨[], rfl, .nil, fun _ hp => nomatch hp⟩ (fun i ys X hi h => by obtain ⟨_, _, h, _⟩ := h; rw [h.length, List.length_map, List.length_take]; omega) ?_ ?_
              · intro q hq p hp
                rw [List.mem_singleton.mp hq]
                rcases List.mem_cons.mp hp with rfl | hp
                · exact Nat.ne_of_gt (Nat.lt_trans hD7_I7 (Nat.lt_trans hDC7 hCB7))
                · exact Nat.ne_of_lt (hltI7 p hp)
              · intro p hp
                rcases List.mem_append.mp hp with hp | hp
                · rw [List.mem_singleton.mp hp]
                  exact ⟨Nat.ne_of_lt (Nat.lt_trans hD7_I7 hDC7), Nat.ne_of_lt hD7_I7⟩
                · rcases List.mem_cons.mp hp with rfl | hp
                  · exact ⟨Nat.ne_of_gt hCB7, Nat.ne_of_gt (Nat.lt_trans hDC7 hCB7)⟩
                  · exact ⟨Nat.ne_of_lt (Nat.lt_trans (hD7X p hp) hDC7), Nat.ne_of_lt (hD7X p hp)⟩
              · rintro i v us X own Y oC oB m₂ h tk E' hi hz41 hz42 hC2 hoB F44 N44 hBY hXY hOY hCY off hXB hd
                try (refine letQS ?_; intro Q43 s43)
                obtain ⟨_, hv⟩ := hz41
                obtain ⟨RN, rfl, hLL, hlt9⟩ := hz42
                clear F43 N43 hC7
                obtain ⟨a9, n9, bs, rfl, hbs, hma⟩ := hBB3.at hv
                have hbl : bs.length = 5 := by
                  have h9 := List.mem_of_getElem? hbs
                  obtain ⟨o9, _, rfl⟩ := List.mem_map.mp h9
                  rw [List.length_map]; exact hwsl
                refine tnil ?_
                have yX1 : ∀ p ∈ X1, p ∈ Y := fun p hp => hXY p (List.mem_append_right _ hp)
                have y_2 := yX1 _ m_2
                refine ListComp_G F44 (by with_unfolding_all rfl) (by decide) rfl (by decide) ?_
                k_steps
                unfold Hold
                rename IsRange _ _ _ _ _ _ _ _ => hR
                rename Fr _ _ _ _ => F45
                rename News _ _ _ _ => N45
                refine pyIter_range_K F45 N45 hR (by decide) (n := 5) (by decide) fun I8 h38 F46 N46 hltI8 => ?_
                clear F45 N45 hR
                refine ⟨_, F46, N46, fun D8 C8 oC8 h39 hC8 F47 N47 hltD8 hDC8 => ?_⟩
                clear F46 N46
                obtain ⟨Z, hZ⟩ := ex3 N47
                rw [← hZ] at N47 hltD8 hltI8
                have w_a : (a9, listOf (bs.map Value.bool).toArray n9) ∈ Z := hZ ▸ (.tail _ (.tail _ (yX1 _ hma)))
                have w_B : (B7, oB) ∈ Z := hZ ▸ (.tail _ (.tail _ hBY))
                have hD8_I8 : @LT.lt Nat _ I8 D8 := hltD8 (I8, _) (.head _)
                have hD8Z : ∀ p ∈ Z, @LT.lt Nat _ p.1 D8 := fun p hp => hltD8 p (.tail _ hp)
                have hbl' : (bs.map Value.bool).length = 5 := by rw [List.length_map]; exact hbl
                refine comp1 rfl rfl (LIt.range rfl (a := 0) (n := 5)) (fun _ _ _ h => h.1) (fun j us X => X = Z ∧ IntsAre us (rowN bs j)) (own₀ := [(I8, _)]) F47 N47 hC8 rfl (fun _ hp => nomatch hp) (fun q hq p hp => by rw [List.mem_singleton.mp hq]; exact Nat.ne_of_lt (hltI8 p hp)) (fun p hp => ⟨Nat.ne_of_lt (Nat.lt_trans (hltD8 p hp) hDC8), Nat.ne_of_lt (hltD8 p hp)⟩) hDC8 ⟨rfl, .nil⟩ (fun i ys X hi h => by rw [h.2.length]; have h9 := rowN_len bs i; omega) ?_ ?_
                · rintro j v2 us2 X own2 Y2 oC9 m9 h tk E2 hj hz44 hz45 hC9 hmk9 F48 N48 hXY2 hOY2 hCY2 off2 hd2
                  try (refine letQS ?_; intro Q46 s46)
                  obtain ⟨_, t9, rfl⟩ := hz44
                  obtain ⟨rfl, hus⟩ := hz45
                  clear F47 N47 hC8
                  obtain ⟨b, hb⟩ : ∃ b, bs[j]? = some b := ⟨_, List.getElem?_eq_getElem (by omega)⟩
                  have hvx : (bs.map Value.bool)[((0 : Int) + (j : Int)).toNat]? = some (.bool b) := by
                    rw [show ((0 : Int) + (j : Int)).toNat = j by omega, List.getElem?_map, hb]
                    rfl
                  have u_B := hXY2 _ w_B
                  have u_a := hXY2 _ w_a
                  refine tests_one ?_
                  cases b
                  · k_steps
                    rename Fr _ _ _ _ => F49
                    rename News _ _ _ _ => N49
                    refine TEnd.grow [] _ F49 N49 (fun p hp => hp) (fun _ hp => nomatch hp) (fun _ hp => nomatch hp) hC9 hXY2 hOY2 hCY2 off2 hd2 ⟨rfl, ?_⟩
                    rw [rowN_no hb, Option.toList, List.append_nil]
                    exact hus
                  · k_steps
                    rename Fr _ _ _ _ => F49
                    rename News _ _ _ _ => N49
                    refine TEnd.grow [] _ F49 N49 (fun p hp => hp) (fun _ hp => nomatch hp) (fun _ hp => nomatch hp) hC9 hXY2 hOY2 hCY2 off2 hd2 ⟨rfl, ?_⟩
                    rw [rowN_yes hb]
                    exact IntsAre.snoc hus _ _
                · rintro us2 m9 X9 oC9 h tk hz47 hC9 F48 N48 hXC9
                  try (refine letQS ?_; intro Q48 s48)
                  obtain ⟨rfl, hus⟩ := hz47
                  refine ⟨h, tk, oC9, m9, _, _, rfl, F48, hC9, N48, fun p hp => (hXC9 p hp).1, fun h6 F49 N49 => ?_⟩
                  have eY : ∀ p ∈ (C7, oC) :: (D7, lst us) :: Y, p ∈ X9 := fun p hp => hZ ▸ hp
                  have hlD8 : ∀ p ∈ (C7, oC) :: (D7, lst us) :: Y, @LT.lt Nat _ p.1 D8 := fun p hp => hD8Z p (eY p hp)
                  refine TEnd.intro ((B7, oB) :: (D8, listOf (List.toArray us2) us2.length) :: (RN ++ X1)) F49 N49 (.tail _ (eY _ (.head _))) (.tail _ (eY _ (.tail _ (.head _)))) ?_ (fun q hq => .tail _ (eY q (.tail _ (.tail _ (hOY q hq))))) hC2 (fun p hp => .tail _ (.tail _ (hd p hp))) ?_ ?_ ⟨(D8, _) :: (RN ++ X1), rfl, ?_, (D8, _) :: RN, rfl, ?_, ?_⟩
                  · intro p hp
                    rcases List.mem_cons.mp hp with rfl | hp
                    · exact .tail _ (eY _ (.tail _ (.tail _ hBY)))
                    · rcases List.mem_cons.mp hp with rfl | hp
                      · exact .head _
                      · exact .tail _ (eY _ (.tail _ (.tail _ (hXY p hp))))
                  · intro p hp
                    rcases List.mem_cons.mp hp with rfl | hp
                    · exact hCY _ hBY
                    · rcases List.mem_cons.mp hp with rfl | hp
                      · exact ⟨Nat.ne_of_gt (hlD8 (C7, _) (.head _)), Nat.ne_of_gt (hlD8 (D7, _) (.tail _ (.head _)))⟩
                      · exact hCY p (hXY p hp)
                  · intro q hq p hp
                    rcases List.mem_cons.mp hp with rfl | hp
                    · exact off q hq (B7, oB) (.head _)
                    · rcases List.mem_cons.mp hp with rfl | hp
                      · exact Nat.ne_of_gt (hlD8 q (.tail _ (.tail _ (hOY q hq))))
                      · exact off q hq p (.tail _ hp)
                  · refine List.forall_mem_cons.mpr ⟨Nat.ne_of_gt (hlD8 (B7, _) (.tail _ (.tail _ hBY))), hXB⟩
                  · rw [take_at hbs, List.map_append]
                    exact LLAre.snoc (.head _) hus (hLL.mono fun p hp => .tail _ hp)
                  · refine List.forall_mem_cons.mpr ⟨fun q hq => hlD8 q (.tail _ (.tail _ (yX1 q hq))), hlt9⟩
              · rintro us m₂ X oC oB h tk hz49 hC2 F44 N44 hXC
                try (refine letQS ?_; intro Q50 s50)
                obtain ⟨RN, rfl, hLL, hlt9⟩ := hz49
                have hll : ((ws.map fun o => ws.map fun l => lessF l o).take zs.length) = ws.map fun o => ws.map fun l => lessF l o := by rw [List.take_of_length_le (by rw [List.length_map]; omega)]
                rw [hll] at hLL
                refine ⟨h, tk, oC, m₂, _, _, rfl, F44, hC2, N44, fun p hp => (hXC p hp).1, fun h38 F45 N45 => ?_⟩
                have e_D7 : @LT.lt Nat _ D5 D7 := hD7X _ m_D5
                rw [hX1] at N45 hlt9 hD7X
                have e_D7lf : @LT.lt Nat _ lf D7 := hD7X (lf, _) (.tail _ (.tail _ (.head _)))
                have e_D7pb : @LT.lt Nat _ pb D7 := hD7X (pb, _) (.tail _ (.tail _ (.tail _ (.tail _ (.head _)))))
                have e_D7_7 : @LT.lt Nat _ (L + 1 + 1 + 1 + 1 + 1 + 1 + 1) D7 := hD7X (L + 1 + 1 + 1 + 1 + 1 + 1 + 1, _) (.tail _ (.tail _ (.tail _ (.tail _ (.tail _ (.tail _ (.tail _ (.tail _ (.tail _ (.tail _ (.tail _ (.head _))))))))))))
                replace N45 := news_in18 N45
                have g3_lf : ∀ p ∈ RN ++ kp3, p.1 ≠ lf := fun p hp => (List.mem_append.mp hp).elim (fun h => Nat.ne_of_gt (hlt9 p h (lf, _) (.tail _ (.tail _ (.head _))))) (g2_lf p)
                have g3_dl : ∀ p ∈ RN ++ kp3, p.1 ≠ dl := fun p hp => (List.mem_append.mp hp).elim (fun h => Nat.ne_of_gt (hlt9 p h (dl, _) (.tail _ (.tail _ (.tail _ (.head _)))))) (g2_dl p)
                have g3_pb : ∀ p ∈ RN ++ kp3, p.1 ≠ pb := fun p hp => (List.mem_append.mp hp).elim (fun h => Nat.ne_of_gt (hlt9 p h (pb, _) (.tail _ (.tail _ (.tail _ (.tail _ (.head _))))))) (g2_pb p)
                have g3_7 : ∀ p ∈ RN ++ kp3, p.1 ≠ L + 1 + 1 + 1 + 1 + 1 + 1 + 1 := fun p hp => (List.mem_append.mp hp).elim (fun h => Nat.ne_of_gt (hlt9 p h (L + 1 + 1 + 1 + 1 + 1 + 1 + 1, _) (.tail _ (.tail _ (.tail _ (.tail _ (.tail _ (.tail _ (.tail _ (.tail _ (.tail _ (.tail _ (.tail _ (.head _)))))))))))))) (g2_7 p)
                have g3_keep : ∀ p ∈ keep, p ∈ RN ++ kp3 := fun p hp => List.mem_append_right _ (g2_keep p hp)
                have hLL2 := hLL.mono (T' := RN ++ kp3) fun p hp => List.mem_append_left _ hp
                have hLe3 := hLe2.mono (T' := RN ++ kp3) fun p hp => List.mem_append_right _ hp
                clear hlt9 F44 N44 hC2 hXC F43 N43 hC7 hD7X hltD7 hltI7 m_D5 m_2 m_kp hX1 hBB3 hBB2 hLe2 g2_lf g2_dl g2_pb g2_7 g2_keep hLL
                generalize RN ++ kp3 = kp4 at N45 g3_lf g3_dl g3_pb g3_7 g3_keep hLL2 hLe3
                try dsimp only at F45 N45 ⊢
                replace N45 : News G0 L h38 ((D7, listOf (List.toArray us) us.length) :: _) := N45
                k_steps
                rename Obj => hB7
                refine Hold.mk ?_
                k_with "r" => (repeat (rename _ => zz; clear_value zz; clear zz)); (rename _ => zz); revert zz
                k_with "c" => (repeat (rename _ => zz; clear_value zz; clear zz)); (rename _ => zz); clear zz
                (iterate 15 k_extra "r"); (iterate 1 k_extra "c"); (iterate 4 k_extra "r"); (iterate 1 k_extra "c"); (iterate 2 k_extra "r"); (iterate 4 k_extra "c"); (iterate 2 k_extra "r"); (iterate 1 k_extra "c"); (iterate 3 k_extra "r"); (iterate 4 k_extra "c"); (iterate 1 k_extra "r"); (iterate 3 k_extra "c"); (iterate 5 k_extra "r"); (iterate 1 k_extra "c"); (iterate 17 k_extra "r"); (iterate 1 k_extra "c"); (iterate 2 k_extra "r"); (iterate 1 k_extra "c"); (iterate 2 k_extra "r"); (iterate 2 k_extra "c"); (iterate 2 k_extra "r"); (iterate 1 k_extra "c"); (iterate 99 k_extra "r"); (iterate 1 k_extra "c"); (iterate 12 k_extra "r"); (iterate 1 k_extra "c"); (iterate 24 k_extra "r"); (iterate 1 k_extra "c"); (iterate 4 k_extra "r"); (iterate 1 k_extra "c"); (iterate 10 k_extra "r"); (iterate 1 k_extra "c"); (iterate 3 k_extra "r"); (iterate 1 k_extra "c"); (iterate 12 k_extra "r"); (iterate 1 k_extra "c"); (iterate 5 k_extra "r"); (iterate 2 k_extra "c"); (iterate 10 k_extra "r"); (iterate 1 k_extra "c"); (iterate 7 k_extra "r"); (iterate 1 k_extra "c"); (iterate 20 k_extra "r")
                repeat (rename _ => zz; first | (clear_value zz; clear zz) | revert zz)
                exact fun h => h.out
  ⟩
end Mine
end
-- lawt12
section
theorem Mine.resetlawt12 : True := by (w_top off; trivial)
open PySem PySem.W PyProof.Rows PyProof.Rows.LCg
set_option Elab.async false
set_option maxRecDepth 100000
set_option maxHeartbeats 8000000
namespace Mine
noncomputable def st_S12 : { P : Prop // Box P → Mine.st_S11.1 } := ⟨_, fun (hX9 : Box _) => by
                k_with "om" => with_reducible first | exact Mine.om18 | exact Mine.om25 (by assumption) (by assumption) | exact Mine.om20 (by assumption) | exact Mine.om29 | exact Mine.om72 (by assumption) | exact Mine.om16 (by assumption) (by assumption) (by assumption) | exact Mine.om118 (by assumption) | exact Mine.om45 (by assumption) | exact Mine.om171 (by assumption) (by assumption) | exact Mine.om17 (by assumption) (by assumption) | exact Mine.om175 (by assumption) (by assumption) | exact Mine.om187 (by assumption) (by assumption) | fail
                intro w s₀ s₁ mg mb fa o cd script ls svs hI h₁ tk₁ o7 o6 o1 hNS o2 d2 G0 TG BG lifted hG0 codeHd L D C oC m₂ oC h tk na nb nc ta tb tc _ _ _ _ _ _ _ fi hfi se hse r1 vs1 n1 tk9 g9 hI1 _ _ _ q1 q2 hq1 hq2 r2 vs2 n2 tk9 g9 hI2 hb9 _ _ r4 h11 tk11 _ _ q3 hx0 hx1 hsl hs5 r5 tk12 _ _ _ tn hy0 hy1 Dw wv ws hWs _ _ _ hwsl D2 C2 oC ys m₂ oC h tk tx0 _ _ _ _ _ lf hlfw hlf145 sx sdx sf spb t1 t2 t3 t4 t5 t6 t7 ps keep lx dl tk12' pb u1 u3 u4 u5 u6 l12 hy_lf hy_145 hy_Dw hy_r2 hy_r1 hy_D hy_7 hy_f7 hy_f6 hy_f5 hy_f4 hy_f3 hy_f2 hy_f1 hy_r1f hy_r2f hy_Df hy_lx hy_pb hLat hB5 o5x d5x _ tx D3 X1 hX1 ys m₂ oC h tk kk uu h22 tk22 _ _ h23 tk _ I4 D4 C4 X1 ys m₂ oC h tk kp2 e_lf e_pb hB6 o6x d6x _ I5 D5 C5 B5 X1 hyl5 zs m₂ oC h tk h32 tk32 e_D5lf e_D5pb _ I6 oI6 hI6 D6 C6 m₂ X oC h tk _ _ _ XG I7 oI7 hI7 D7 C7 B7 oC7 X1 us m₂ oC h tk e_D7lf e_D7pb kp4 g3_lf g3_dl g3_pb g3_keep hLL2 hLe3 _ hB7 _ _ _ _ _ qk ek _ qk ek
                revert XG; k_fill; intro XG
                unfold Hold
                obtain ⟨hzl, hz1, hz5, hzne⟩ := cut_ok (f := q1) (g := q2) (by omega) (by omega) (by omega) (by omega)
                have hv2l := hI2.length
                have hp0 : 0 ≤ ([na, nb, nc].getD (Int.toNat 2) 0).fmod (vs2.length : Int) := Int.fmod_nonneg_of_pos _ (by omega)
                have hp1 : ([na, nb, nc].getD (Int.toNat 2) 0).fmod (vs2.length : Int) < vs2.length := Int.fmod_lt_of_pos _ (by omega)
                k_steps
                unfold Hold
                rename Fr _ _ _ _ => F47
                rename News _ _ _ _ => N47
                try dsimp only at F47 N47 ⊢
                generalize hG8 : ([na, nb, nc].getD (Int.toNat 2) 0).fmod (vs2.length : Int) = pl at hp0 hp1 F47 N47 ⊢
                rw [slice_from vs2 hp0, slice_upto vs2 hp0] at N47
                refine add_K (vs := vs2.drop pl.toNat) (ws := vs2.take pl.toNat) F47 N47 (News.isList N47 (.tail _ (.head _))) (News.isList N47 (.head _)) (fun Do h39 F48 N48 hlt48 => ?_) (by rw [sizeLine_eq, List.length_drop, List.length_take]; omega)
                have hIo : IntsAre (vs2.drop pl.toNat ++ vs2.take pl.toNat) (ordF q1 q2 pl.toNat) := ints_app (ints_drop _ hI2) (ints_take _ hI2)
                obtain ⟨ho1, ho2, ho3, ho4, ho5⟩ := ord_ok (q1 := q1) (q2 := q2) (p := pl.toNat) (by omega) (by omega) (by omega) (by omega) (by omega) (by omega)
                have hovl : (vs2.drop pl.toNat ++ vs2.take pl.toNat).length = vs2.length := by rw [List.length_append, List.length_drop, List.length_take]; omega
                have hoD7 : @LT.lt Nat _ D7 Do := hlt48 (D7, _) (.tail _ (.tail _ (.head _)))
                have hopb : @LT.lt Nat _ pb Do := hlt48 (pb, _) (by k_mem)
                generalize vs2.drop pl.toNat ++ vs2.take pl.toNat = ov at N48 hIo hovl
                replace N48 := news_cut2 N48
                have hol := hIo.length
                clear F47 N47 hlt48
                try dsimp only
                k_steps
                unfold Hold
                rename Fr _ _ _ _ => F49
                rename News _ _ _ _ => N49
                refine add_K (vs := ov) (ws := [_, _]) F49 N49 (News.isList N49 (.tail _ (.head _))) (News.isList N49 (.head _)) (fun Dp h40 F50 N50 hlt50 => ?_) (by rw [sizeLine_eq]; simp only [List.length_cons, List.length_nil]; omega)
                have hDpo : @LT.lt Nat _ Do Dp := hlt50 (Do, _) (.tail _ (.head _))
                clear F49 N49 hlt50
                replace N50 := news_cut1 N50
                try dsimp only
                k_steps
                unfold Hold
                rename Fr _ _ _ _ => F51
                rename News _ _ _ _ => N51
                try dsimp only at F51 N51 ⊢
                refine wpAny_call (told_code (w := w) (ruler := ordF q1 q2 pl.toNat ++ [127, 1]) BG F51 XG N51 TG rfl rfl (by decide) (.head _) (ints_app hIo (.cons _ _ (.cons _ _ .nil))) ho3 fun r6 vs6 n6 h41 tk41 g41 F52 N52 hI6 hlt52 hg52 => ?_)
                replace hb9 := hg52 hb9
                rw [show ((5 : Int) + 1) = 6 from rfl, ho1] at hI6
                have hr6 : @LT.lt Nat _ Dp r6 := hlt52 (Dp, _) (.head _)
                replace N52 := news_cut1 N52
                clear F51 N51 hlt52 hg52
                try dsimp only
                k_steps
                unfold Hold
                rename IntsAre _ (List.reverse _) => hIr
                rename Fr _ _ _ _ => F53
                rename News _ _ _ _ => N53
                have hrl := hIr.length
                rw [List.length_reverse] at hrl
                refine add_K (ws := [_, _]) F53 N53 (News.isList N53 (.tail _ (.head _))) (News.isList N53 (.head _)) (fun Dq h42 F54 N54 hlt54 => ?_) (by rw [sizeLine_eq]; simp only [List.length_cons, List.length_nil]; omega)
                have hDq6 : @LT.lt Nat _ r6 Dq := hlt54 (r6, _) (.tail _ (.tail _ (.head _)))
                clear F53 N53 hlt54
                replace N54 := news_cut2 N54
                try dsimp only
                k_steps
                unfold Hold
                rename Fr _ _ _ _ => F55
                rename News _ _ _ _ => N55
                try dsimp only at F55 N55 ⊢
                refine wpAny_call (told_code (w := w) (ruler := (ordF q1 q2 pl.toNat).reverse ++ [127, 1]) BG F55 XG N55 TG rfl rfl (by decide) (.head _) (ints_app hIr (.cons _ _ (.cons _ _ .nil))) ho4 fun r7 vs7 n7 h43 tk43 g43 F56 N56 hI7 hlt56 hg56 => ?_)
                replace hb9 := hg56 hb9
                rw [show ((5 : Int) + 1) = 6 from rfl, ho2] at hI7
                have hr7 : @LT.lt Nat _ Dq r7 := hlt56 (Dq, _) (.head _)
                replace N56 := news_cut1 N56
                clear F55 N55 hlt56 hg56 hIr hrl
                try dsimp only
                k_steps
                unfold Hold
                rename IntsAre _ (List.reverse (ordF q1 q2 _)) => hIr
                rename Fr _ _ _ _ => F57
                rename News _ _ _ _ => N57
                refine ne_rows N57 (.tail _ (.tail _ (.head _))) (.head _) (.tail _ (.tail _ (.tail _ (.tail _ (.head _))))) (.tail _ (.tail _ (.tail _ (.head _)))) (.tail _ (.tail _ (.tail _ (.tail _ (.tail _ (.head _)))))) (.tail _ (.head _)) hI6 hI7 hIo hIr (by ke_room) ?_
                replace N57 := news_tail2 N57
                clear hIr
                try dsimp only
                k_steps
                unfold Hold
                rename Fr _ _ _ _ => F58
                rename News _ _ _ _ => N58
                obtain ⟨Dr, hDr⟩ := exA N58
                refine wpAny_call (ways_code w (cutF q1 q2 5).length _ _ _ _ _ _ _ _ _ _ _ _ _ _ _ _ _ _ r1 r2 vs1 vs2 n1 n2 (cutF fi se 5) (cutF q1 q2 5) BG F58 XG N58 TG rfl rfl (Nat.lt_of_le_of_lt (Nat.add_le_add_right (Nat.add_le_add_left hzl _) _) (by decide)) (Nat.lt_of_le_of_lt (Nat.add_le_add_right (Nat.add_le_add_left (Nat.mul_le_mul_left 20 hzl) _) _) (by decide)) (by k_mem) (by k_mem) hI1 hI2 rfl (by omega) hsl hs5 ?_)
                intro tW h44 tk44 F59 N59
                clear F58 N58
                subst hDr
                try dsimp only
                k_steps
                unfold Hold
                rename Fr _ _ _ _ => F60
                rename News _ _ _ _ => N60
                refine Hold.mk ?_
                k_with "r" => (repeat (rename _ => zz; clear_value zz; clear zz)); (rename _ => zz); revert zz
                k_with "c" => (repeat (rename _ => zz; clear_value zz; clear zz)); (rename _ => zz); clear zz
                (iterate 7 k_extra "r"); (iterate 3 k_extra "c"); (iterate 1 k_extra "r"); (iterate 1 k_extra "c"); (iterate 6 k_extra "r"); (iterate 3 k_extra "c"); (iterate 3 k_extra "r"); (iterate 1 k_extra "c"); (iterate 5 k_extra "r"); (iterate 1 k_extra "c"); (iterate 4 k_extra "r"); (iterate 1 k_extra "c"); (iterate 1 k_extra "r"); (iterate 2 k_extra "c"); (iterate 1 k_extra "r"); (iterate 4 k_extra "c"); (iterate 3 k_extra "r"); (iterate 3 k_extra "c"); (iterate 4 k_extra "r"); (iterate 1 k_extra "c"); (iterate 1 k_extra "r"); (iterate 2 k_extra "c"); (iterate 3 k_extra "r"); (iterate 3 k_extra "c"); (iterate 4 k_extra "r"); (iterate 5 k_extra "c"); (iterate 2 k_extra "r"); (iterate 2 k_extra "c"); (iterate 1 k_extra "r"); (iterate 6 k_extra "c"); (iterate 3 k_extra "r"); (iterate 2 k_extra "c"); (iterate 3 k_extra "r"); (iterate 1 k_extra "c"); (iterate 169 k_extra "r"); (iterate 2 k_extra "c"); (iterate 10 k_extra "r"); (iterate 1 k_extra "c"); (iterate 12 k_extra "r"); (iterate 1 k_extra "c"); (iterate 36 k_extra "r"); (iterate 1 k_extra "c"); (iterate 5 k_extra "r"); (iterate 2 k_extra "c"); (iterate 12 k_extra "r")
                repeat (rename _ => zz; first | (clear_value zz; clear zz) | revert zz)
                exact fun h => h.out
  ⟩
end Mine
end
-- lawt13
section
theorem Mine.resetlawt13 : True := by (w_top off; trivial)
open PySem PySem.W PyProof.Rows PyProof.Rows.LCg
set_option Elab.async false
set_option maxRecDepth 100000
set_option maxHeartbeats 8000000
namespace Mine
theorem st_T13 : Mine.st_S12.1 := by
                k_with "compareOp Eq ref ref" => (refine Hold.mk ?_)
                k_with "om" => with_reducible first | exact Mine.om1 (by assumption) | exact Mine.om2 (by assumption) | exact Mine.om7 (by assumption) (by assumption) (by assumption) | exact Mine.om14 (by assumption) (by assumption) (by assumption) | exact Mine.om4 (by assumption) | exact Mine.om21 (by assumption) (by assumption) (by assumption) (by assumption) (by assumption) | exact Mine.om16 (by assumption) (by assumption) (by assumption) | exact Mine.om48 (by assumption) (by assumption) (by assumption) (by assumption) (by assumption) (by assumption) (by assumption) | exact Mine.om33 (by assumption) (by assumption) | exact Mine.om53 (by assumption) (by assumption) (by assumption) (by assumption) (by assumption) (by assumption) | exact Mine.om69 (by assumption) (by assumption) (by assumption) (by assumption) | exact Mine.om11 (by assumption) (by assumption) | exact Mine.om91 (by assumption) (by assumption) (by assumption) | exact Mine.om92 (by assumption) (by assumption) (by assumption) | exact Mine.om94 (by assumption) (by assumption) (by assumption) | exact Mine.om95 (by assumption) (by assumption) (by assumption) | exact Mine.om100 (by assumption) (by assumption) (by assumption) | exact Mine.om103 (by assumption) (by assumption) (by assumption) | exact Mine.om134 | exact Mine.om43 (by assumption) | exact Mine.om40 (by assumption) | exact Mine.om46 (by assumption) | exact Mine.om47 (by assumption) | exact Mine.om50 (by assumption) (by assumption) (by assumption) | exact Mine.om51 (by assumption) | exact Mine.om52 (by assumption) | exact Mine.om24 (by assumption) (by assumption) | exact Mine.om42 (by assumption) (by assumption) | exact Mine.om29 | fail
                intro w s₀ s₁ mg mb fa o cd script ls svs hI o7 o6 o1 hNS o2 G0 TG BG lifted hG0 codeHd L D C oC m₂ oC h tk na nb nc ta tb tc _ _ _ _ _ _ _ fi hfi se hse r1 vs1 n1 tk9 g9 _ _ _ q1 q2 hq1 hq2 r2 vs2 n2 tk9 g9 _ _ r4 h11 tk11 _ _ q3 hx0 hx1 r5 tk12 _ _ _ tn hy0 hy1 Dw wv ws hWs _ _ _ hwsl D2 C2 oC ys m₂ oC h tk tx0 _ _ _ _ _ lf hlfw hlf145 sx sdx sf spb t1 t2 t3 t4 t5 t6 t7 ps keep lx dl tk12' pb u1 u3 u4 u5 u6 l12 hy_lf hy_145 hy_Dw hy_r2 hy_r1 hy_D hy_7 hy_f7 hy_f6 hy_f5 hy_f4 hy_f3 hy_f2 hy_f1 hy_r1f hy_r2f hy_Df hy_lx hy_pb hLat hB5 o5x d5x _ tx D3 X1 hX1 ys m₂ oC h tk kk uu h22 tk22 _ _ h23 tk _ I4 D4 C4 X1 ys m₂ oC h tk kp2 e_lf e_pb hB6 o6x d6x _ I5 D5 C5 B5 X1 hyl5 zs m₂ oC h tk h32 tk32 e_D5lf e_D5pb _ I6 oI6 hI6 D6 C6 m₂ X oC h tk _ _ _ I7 oI7 hI7 D7 C7 B7 oC7 X1 us m₂ oC h tk e_D7lf e_D7pb kp4 g3_lf g3_dl g3_pb g3_keep hLL2 hLe3 _ hB7 _ _ XG hzl hz1 hv2l _ _ pl hp1 Do ho5 hoD7 hopb ov _ _ _ Dp hDpo r6 vs6 n6 hI6 hr6 _ _ Dq hDq6 r7 vs7 n7 tk43 g43 hI7 hb9 hr7 _ _ _ _ _ tk _ Dr tW tk44 _ F60 N60 _ _ qk ek
                revert XG; k_fill; intro XG
                unfold Hold
                refine ListComp_G F60 (by with_unfolding_all rfl) (by decide) rfl (by decide) ?_
                k_steps
                unfold Hold
                rename Fr _ _ _ _ => F61
                rename News _ _ _ _ => N61
                refine pyIter_list_K F61 N61 (l := Dr) (vs := [.ref r6, .ref r7]) (k := 0) (.head _) fun I9 oI9 h45 hI9 F62 N62 hltI9 => ?_
                clear F61 N61
                refine ⟨_, F62, N62, fun D9 C9 oC9 h46 hC9 F63 N63 hltD9 hDC9 => ?_⟩
                clear F62 N62
                have hx_Drlf : @Ne Nat Dr lf := news_apart N63 (.tail _ (.tail _ (.tail _ (.head _)))) (.tail _ (.tail _ (.tail _ (.tail _ (.tail _ (.tail _ (.tail _ (.tail _ (.tail _ (.tail _ (.head _))))))))))) lists_apart
                have hx_Drpb : @Ne Nat Dr pb := news_apart N63 (.tail _ (.tail _ (.tail _ (.head _)))) (.tail _ (.tail _ (.tail _ (.tail _ (.tail _ (.tail _ (.tail _ (.tail _ (.tail _ (.tail _ (.tail _ (.tail _ (.head _))))))))))))) lists_apart
                have hx_Drdl : @Ne Nat Dr dl := news_apart N63 (.tail _ (.tail _ (.tail _ (.head _)))) (.tail _ (.tail _ (.tail _ (.tail _ (.tail _ (.tail _ (.tail _ (.tail _ (.tail _ (.tail _ (.tail _ (.head _)))))))))))) list_dict
                replace N63 := news_fill N63
                obtain ⟨X1, hX1⟩ := exF N63
                rw [← hX1] at N63
                have hI9X : ∀ p ∈ (pb, listOf (List.toArray ([] : List Value)) 0) :: (lf, listOf (List.toArray ([] : List Value)) kk) :: (dl, dictOf (lexDict w (1 + Txt.count tx (Str.ofString "\n")) (.ref sx) pb u1 uu u3 u4 u5 u6) 4) :: X1, @LT.lt Nat _ p.1 I9 := by
                  rw [hX1]
                  exact fun p hp => hltI9 p (mem_fill p hp)
                have hD9X : ∀ p ∈ (pb, listOf (List.toArray ([] : List Value)) 0) :: (lf, listOf (List.toArray ([] : List Value)) kk) :: (dl, dictOf (lexDict w (1 + Txt.count tx (Str.ofString "\n")) (.ref sx) pb u1 uu u3 u4 u5 u6) 4) :: X1, @LT.lt Nat _ p.1 D9 := by
                  rw [hX1]
                  exact fun p hp => hltD9 p (.tail _ (mem_fill p hp))
                have hD9_I9 : @LT.lt Nat _ I9 D9 := hltD9 (I9, _) (.head _)
                clear hltI9 hltD9
                have hx_lf : ∀ p ∈ X1, p.1 ≠ lf := by
                  rw [hX1]
                  repeat' first | exact g3_lf | (refine List.forall_mem_cons.mpr ⟨(show @Ne Nat _ _ by omega), ?_⟩)
                have hx_dl : ∀ p ∈ X1, p.1 ≠ dl := by
                  rw [hX1]
                  repeat' first | exact g3_dl | (refine List.forall_mem_cons.mpr ⟨(show @Ne Nat _ _ by omega), ?_⟩)
                have hx_pb : ∀ p ∈ X1, p.1 ≠ pb := by
                  rw [hX1]
                  repeat' first | exact g3_pb | (refine List.forall_mem_cons.mpr ⟨(show @Ne Nat _ _ by omega), ?_⟩)
                have m_Dr : (Dr, listOf (List.toArray [Value.ref r6, .ref r7]) 0) ∈ X1 := hX1 ▸ .head _
                have m_r7 : (r7, listOf vs7.toArray n7) ∈ X1 := hX1 ▸ .tail _ (.head _)
                have m_r6 : (r6, listOf vs6.toArray n6) ∈ X1 := hX1 ▸ .tail _ (.tail _ (.head _))
                have m_D7 : (D7, listOf us.toArray us.length) ∈ X1 := hX1 ▸ .tail _ (.tail _ (.tail _ (.tail _ (.head _))))
                have m_D4 : (D4, listOf ys.toArray ys.length) ∈ X1 := hX1 ▸ .tail _ (.tail _ (.tail _ (.tail _ (.tail _ (.tail _ (.head _))))))
                have m_lx : (lx, instObj 73 dl) ∈ X1 := hX1 ▸ .tail _ (.tail _ (.tail _ (.tail _ (.tail _ (.tail _ (.tail _ (.head _)))))))
                have m_7 : (L + 1 + 1 + 1 + 1 + 1 + 1 + 1, hB7) ∈ X1 := hX1 ▸ .tail _ (.tail _ (.tail _ (.tail _ (.tail _ (.tail _ (.tail _ (.tail _ (.tail _ (.tail _ (.tail _ (.tail _ (.tail _ (.head _)))))))))))))
                have m_6 : (L + 1 + 1 + 1 + 1 + 1 + 1, o6x) ∈ X1 := hX1 ▸ .tail _ (.tail _ (.tail _ (.tail _ (.tail _ (.tail _ (.tail _ (.tail _ (.tail _ (.tail _ (.tail _ (.tail _ (.tail _ (.tail _ (.head _))))))))))))))
                have m_5 : (L + 1 + 1 + 1 + 1 + 1, o5x) ∈ X1 := hX1 ▸ .tail _ (.tail _ (.tail _ (.tail _ (.tail _ (.tail _ (.tail _ (.tail _ (.tail _ (.tail _ (.tail _ (.tail _ (.tail _ (.tail _ (.tail _ (.head _)))))))))))))))
                have m_kp : ∀ p ∈ kp4, p ∈ X1 := fun p hp => hX1 ▸ .tail _ (.tail _ (.tail _ (.tail _ (.tail _ (.tail _ (.tail _ (.tail _ (.tail _ (.tail _ (.tail _ (.tail _ (.tail _ (.tail _ (.tail _ (.tail _ (.tail _ (.tail _ (.tail _ (.tail _ hp)))))))))))))))))))
                have hLLr : LLAre X1 [.ref r6, .ref r7] [ordF q1 q2 pl.toNat, (ordF q1 q2 pl.toNat).reverse] := .cons m_r6 hI6 (.cons m_r7 hI7 .nil)
                have hLe4 := hLe3.mono m_kp
                have hLL4 := hLL2.mono m_kp
                obtain ⟨hf1, hf2, hf0⟩ := fin_main (p := pl.toNat) hfi.1 hfi.2 hse.1 hse.2 hx0 hx1 hy0 hy1 hq1.1 hq1.2 hq2.1 hq2.2 (by omega) hzl hWs
                have hfin : ∀ o ∈ [ordF q1 q2 pl.toNat, (ordF q1 q2 pl.toNat).reverse], 0 ≤ fillF (belowF ws) (tabsF ws) o ∧ o.length ≤ 5 := by
                  refine List.forall_mem_cons.mpr ⟨⟨by rw [hf1]; exact hf0, ho5⟩, List.forall_mem_cons.mpr ⟨⟨by rw [hf2]; exact hf0, by rw [List.length_reverse]; exact ho5⟩, List.forall_mem_nil _⟩⟩
                refine comp1 rfl rfl (LIt.list rfl (l := Dr) (vs := [Value.ref r6, .ref r7]) (kl := 0)) (fun _ _ _ h => h.1) (fun i fs X => ∃ kp' kl' uu', X = (pb, listOf (List.toArray ([] : List Value)) kp') :: (lf, listOf (List.toArray ([] : List Value)) kl') :: (dl, dictOf (lexDict w (1 + Txt.count tx (Str.ofString "\n")) (.ref sx) pb u1 uu' u3 u4 u5 u6) 4) :: X1 ∧ IntsAre fs (([ordF q1 q2 pl.toNat, (ordF q1 q2 pl.toNat).reverse].take i).map fun o => fillF (belowF ws) (tabsF ws) o)) (own₀ := [(I9, oI9)]) F63 N63 hC9 ⟨oI9, rfl, hI9⟩ (fun p hp => by rw [List.mem_singleton.mp hp]; exact .tail _ (.tail _ (.tail _ m_Dr))) ?_ ?_ hDC9 ⟨_, _, _, rfl, .nil⟩ (fun i ys X hi h => by obtain ⟨_, _, _, _, h⟩ := h; rw [h.length, List.length_map, List.length_take]; simp only [List.length_cons, List.length_nil]; omega) ?_ ?_
                · intro q hq p hp
                  rw [List.mem_singleton.mp hq]
                  exact Nat.ne_of_lt (hI9X p hp)
                · intro p hp
                  rcases List.mem_append.mp hp with hp | hp
                  · rw [List.mem_singleton.mp hp]
                    exact ⟨Nat.ne_of_lt (Nat.lt_trans hD9_I9 hDC9), Nat.ne_of_lt hD9_I9⟩
                  · exact ⟨Nat.ne_of_lt (Nat.lt_trans (hD9X p hp) hDC9), Nat.ne_of_lt (hD9X p hp)⟩
                · rintro i v fs X own Y oC m₂ h tk E' hi hz51 hz52 hC2 hmk F64 N64 hXY hOY hCY off hd
                  try (refine letQS ?_; intro Q53 s53)
                  obtain ⟨_, hv⟩ := hz51
                  obtain ⟨kp', kl', uu', rfl, hfs⟩ := hz52
                  clear F63 N63 hC9
                  obtain ⟨r, vsr, oo, nr, rfl, hoo, hmr, hIr⟩ := hLLr.at hv
                  obtain ⟨hfo, hol5⟩ := hfin oo (List.mem_of_getElem? hoo)
                  obtain ⟨y_pb, y_lf, y_dl, yX1⟩ := three_in hXY
                  have y_5 := yX1 _ m_5
                  have y_6 := yX1 _ m_6
                  have y_7 := yX1 _ m_7
                  have y_D4 := yX1 _ m_D4
                  refine tnil ?_
                  k_steps
                  unfold Hold
                  rename Fr _ _ _ _ => F65
                  rename News _ _ _ _ => N65
                  refine ListComp_G F65 (by with_unfolding_all rfl) (by decide) rfl (by decide) ?_
                  k_steps
                  unfold Hold
                  rename Fr _ _ _ _ => F66
                  rename News _ _ _ _ => N66
                  refine pyIter_list_K F66 N66 (l := D4) (vs := ys) (k := ys.length) (.tail _ (.tail _ y_D4)) fun I8 oI8 h48 hI8 F67 N67 hltI8 => ?_
                  clear F66 N66
                  refine ⟨_, F67, N67, fun D8 C8 oC8 h49 hC8 F68 N68 hltD8 hDC8 => ?_⟩
                  clear F67 N67
                  obtain ⟨Z, hZ⟩ := ex3 N68
                  rw [← hZ] at N68 hltD8 hltI8
                  have w_D4 : (D4, listOf ys.toArray ys.length) ∈ Z := hZ ▸ (.tail _ (.tail _ y_D4))
                  have w_X1 : ∀ p ∈ X1, p ∈ Z := fun p hp => hZ ▸ (.tail _ (.tail _ (yX1 p hp)))
                  have hD8Z : ∀ p ∈ Z, @LT.lt Nat _ p.1 D8 := fun p hp => hltD8 p (.tail _ hp)
                  refine comp1 rfl rfl (LIt.list rfl (l := D4) (vs := ys) (kl := ys.length)) (fun _ _ _ h => h.1) (fun j nts X => X = Z ∧ IntsAre nts (tabsF (ws.take j))) (own₀ := [(I8, oI8)]) F68 N68 hC8 ⟨oI8, rfl, hI8⟩ (fun p hp => by rw [List.mem_singleton.mp hp]; exact w_D4) (fun q hq p hp => by rw [List.mem_singleton.mp hq]; exact Nat.ne_of_lt (hltI8 p hp)) (fun p hp => ⟨Nat.ne_of_lt (Nat.lt_trans (hltD8 p hp) hDC8), Nat.ne_of_lt (hltD8 p hp)⟩) hDC8 ⟨rfl, .nil⟩ (fun i ys X hi h => by rw [h.2.length, tabsF, List.length_map, List.length_take]; omega) ?_ ?_
                  · rintro j v2 nts X own2 Y2 oC7 m7 h tk E2 hj hz54 hz55 hC7 hmk7 F69 N69 hXY2 hOY2 hCY2 off2 hd2
                    refine tnil ?_
                    try (refine letQS ?_; intro Q56 s56)
                    obtain ⟨_, hv2⟩ := hz54
                    obtain ⟨rfl, hnts⟩ := hz55
                    clear F68 N68 hC8
                    obtain ⟨b9, y9, rfl, hys9, hWb⟩ := hLe4.at hv2
                    have u_b : WsIn w Y2 b9 y9 := hWb.mono fun p hp => hXY2 p (w_X1 p hp)
                    refine WsIn.two u_b ?_
                    intro _ _ _ _ _ _ _ _ _ _ _ u_b1 u_b2
                    k_steps
                    rename Fr _ _ _ _ => F70
                    rename News _ _ _ _ => N70
                    refine TEnd.grow [] _ F70 N70 (fun p hp => hp) (fun _ hp => nomatch hp) (fun _ hp => nomatch hp) hC7 hXY2 hOY2 hCY2 off2 hd2 ⟨rfl, ?_⟩
                    rw [take_at hys9]
                    unfold tabsF at hnts ⊢
                    rw [List.map_append]
                    exact IntsAre.snoc hnts _ _
                  · rintro nts m7 X7 oC7 h tk hz57 hC7 F69 N69 hXC7
                    try (refine letQS ?_; intro Q58 s58)
                    obtain ⟨rfl, hnts⟩ := hz57
                    refine ⟨h, tk, oC7, m7, _, _, rfl, F69, hC7, N69, fun p hp => (hXC7 p hp).1, fun h50 F70 N70 => ?_⟩
                    rw [List.take_of_length_le (by omega)] at hnts
                    rw [hZ] at N70 hD8Z
                    clear F69 N69 hC7 hXC7 F68 N68 hC8
                    try dsimp only at F70 N70 ⊢
                    replace N70 : News G0 L h50 ((D8, listOf (List.toArray nts) nts.length) :: _) := N70
                    k_steps
                    unfold Hold
                    rename Fr _ _ _ _ => F71
                    rename News _ _ _ _ => N71
                    have N72 := news_fill2 N71 hXY hOY
                    have q_D8 : ∀ p ∈ Y, @LT.lt Nat _ p.1 D8 := fun p hp => hD8Z p (.tail _ (.tail _ hp))
                    have zX1 : ∀ p ∈ X1, p ∈ (D8, listOf (List.toArray nts) nts.length) :: (C9, oC) :: (D9, lst fs) :: (own ++ X1) := fun p hp => .tail _ (.tail _ (.tail _ (List.mem_append_right _ hp)))
                    have zown : ∀ p ∈ own, p ∈ (D8, listOf (List.toArray nts) nts.length) :: (C9, oC) :: (D9, lst fs) :: (own ++ X1) := fun p hp => .tail _ (.tail _ (.tail _ (List.mem_append_left _ hp)))
                    refine wpAny_call (fillings_code (w := w) (below := belowF ws) (tabs := tabsF ws) (sizes := oo) BG F71 XG N72 TG rfl rfl (by decide) (by decide) hLat (List.forall_mem_cons.mpr ⟨zX1 _ m_lx, fun q hq => zX1 _ (m_kp _ (g3_keep _ hq))⟩)
                      (List.forall_mem_cons.mpr ⟨Nat.ne_of_gt (q_D8 _ y_lf), List.forall_mem_cons.mpr ⟨(hCY _ y_lf).1.symm, List.forall_mem_cons.mpr ⟨(hCY _ y_lf).2.symm, fun p hp => (List.mem_append.mp hp).elim (fun h => (off p h _ (.tail _ (.head _))).symm) (hx_lf p)⟩⟩⟩)
                      (List.forall_mem_cons.mpr ⟨Nat.ne_of_gt (q_D8 _ y_dl), List.forall_mem_cons.mpr ⟨(hCY _ y_dl).1.symm, List.forall_mem_cons.mpr ⟨(hCY _ y_dl).2.symm, fun p hp => (List.mem_append.mp hp).elim (fun h => (off p h _ (.tail _ (.tail _ (.head _)))).symm) (hx_dl p)⟩⟩⟩)
                      (Nat.ne_of_lt hy_lf)
                      (List.forall_mem_cons.mpr ⟨Nat.ne_of_gt (q_D8 _ y_pb), List.forall_mem_cons.mpr ⟨(hCY _ y_pb).1.symm, List.forall_mem_cons.mpr ⟨(hCY _ y_pb).2.symm, fun p hp => (List.mem_append.mp hp).elim (fun h => (off p h _ (.head _)).symm) (hx_pb p)⟩⟩⟩)
                      (show @Ne Nat pb lf by omega) (show @Ne Nat pb dl by omega)
                      (zX1 _ m_D7) (.head _) (zX1 _ hmr) hnts hIr (by rw [tabsF, List.length_map]; exact hwsl) hLL4.length (by rw [belowF, List.length_map, List.length_map]; exact hwsl)
                      (fun i v hv => by
                        obtain ⟨a, ivs, l, n, e, hl, hm, hI⟩ := hLL4.at hv
                        refine ⟨a, ivs, n, e, zX1 _ hm, ?_⟩
                        have e2 : (belowF ws).getD i [] = l := by rw [List.getD_eq_getElem?_getD]; show Option.getD _ _ = l; rw [show (belowF ws)[i]? = some l from hl]; rfl
                        rw [e2]; exact hI)
                      hol5 hfo fun kp2 kl2 t22 tr h51 tk51 F72 N73 => ?_)
                    try dsimp only
                    refine TEnd.intro ((pb, listOf (List.toArray ([] : List Value)) kp2) :: (lf, listOf (List.toArray ([] : List Value)) kl2) :: (dl, dictOf (lexDict w (1 + Txt.count tx (Str.ofString "\n")) (.ref sx) pb u1 t22 u3 u4 u5 u6) 4) :: X1) F72 N73 (.tail _ (.tail _ (.tail _ (.tail _ (.head _))))) (.tail _ (.tail _ (.tail _ (.tail _ (.tail _ (.head _)))))) ?_ (fun q hq => .tail _ (.tail _ (.tail _ (zown q hq)))) hC2 (fun p hp => by rw [List.mem_singleton.mp hp]; exact .tail _ (.tail _ (.tail _ m_Dr))) ?_ ?_ ⟨kp2, kl2, t22, rfl, by rw [take_at hoo, List.map_append]; exact IntsAre.snoc hfs _ _⟩
                    · exact List.forall_mem_cons.mpr ⟨.head _, List.forall_mem_cons.mpr ⟨.tail _ (.head _), List.forall_mem_cons.mpr ⟨.tail _ (.tail _ (.head _)), fun p hp => .tail _ (.tail _ (.tail _ (zX1 p hp)))⟩⟩⟩
                    · have c1 := hCY _ y_pb
                      have c2 := hCY _ y_lf
                      have c3 := hCY _ y_dl
                      exact List.forall_mem_cons.mpr ⟨c1, List.forall_mem_cons.mpr ⟨c2, List.forall_mem_cons.mpr ⟨c3, fun p hp => hCY p (yX1 p hp)⟩⟩⟩
                    · intro q hq
                      have c1 := off q hq _ (.head _)
                      have c2 := off q hq _ (.tail _ (.head _))
                      have c3 := off q hq _ (.tail _ (.tail _ (.head _)))
                      exact List.forall_mem_cons.mpr ⟨c1, List.forall_mem_cons.mpr ⟨c2, List.forall_mem_cons.mpr ⟨c3, fun p hp => off q hq p (.tail _ (.tail _ (.tail _ hp)))⟩⟩⟩
                · rintro fs m₂ X oC h tk hz59 hC2 F64 N64 hXC
                  try (refine letQS ?_; intro Q60 s60)
                  obtain ⟨kp', kl', uu', rfl, hfs⟩ := hz59
                  refine ⟨h, tk, oC, m₂, _, _, rfl, F64, hC2, N64, fun p hp => (hXC p hp).1, fun h47 F65 N65 => ?_⟩
                  have hfs2 : IntsAre fs [fillF (belowF ws) (tabsF ws) (ordF q1 q2 pl.toNat), fillF (belowF ws) (tabsF ws) (ordF q1 q2 pl.toNat).reverse] := hfs
                  rw [hf1, hf2] at hfs2
                  rw [hX1] at N65
                  clear F64 N64 hC2 hXC F63 N63 hC9 hfs hfin hf1 hf2 hLL4 hLe4 hLLr hx_lf hx_dl hx_pb m_Dr m_r7 m_r6 m_D7 m_D4 m_lx m_7 m_6 m_5 m_kp hI9X hD9X
                  try dsimp only at F65 N65 ⊢
                  replace N65 : News G0 L h47 ((D9, listOf (List.toArray fs) fs.length) :: _) := N65
                  k_steps
                  unfold Hold
                  rename Fr _ _ _ _ => F66
                  rename News _ _ _ _ => N66
                  refine ke_eq_ints (News.isList N66 (.tail _ (.head _))) (News.isList N66 (.head _)) hfs2 (.cons _ _ (.cons _ _ .nil)) (by ke_room) ?_
                  rw [decide_eq_true rfl]
                  try dsimp only
                  k_steps
                  rename Fr _ _ _ _ => F67
                  rename News _ _ _ _ => N67
                  have hG : ghostOf s₁.heap [(149, 145)] = G0 := hG0
                  subst hG
                  exact LawEnd.of (h₀ := s₁.heap) (news := []) F67 hb9 ⟨⟨ps, (N67 (145, tabObj ps) (by k_mem)).1⟩, trivial⟩
end Mine
end
theorem PySem.Challenge.cw_rs0134_01_holds : PySem.Challenge.rw_rs0134_01.Holds := by
  exact Mine.tt.2 ⟨Mine.st_S6.2 ⟨Mine.st_S7.2 ⟨Mine.st_S8.2 ⟨Mine.st_S9.2 ⟨Mine.st_S10.2 ⟨Mine.st_S11.2 ⟨Mine.st_S12.2 ⟨Mine.st_T13⟩⟩⟩⟩⟩⟩⟩⟩
